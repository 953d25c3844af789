import JvmDerived
import JvmDerived.Pilot.@@N@@Statement
import JvmDerived.Pilot.@@N@@Code
set_option linter.unusedVariables false
set_option linter.unusedSimpArgs false
namespace Jvm.RoadKit
open Sem ClassFile Op Lib Jvm.Stand Jvm.Free Jvm.LawKit
section New
variable {p : Program} {l : Launch} {e : Env} {R : Room} {s : State} {m : MethodId} {args : Array Value} {below : List Frame} {meth : Method} {c : Code} {T : State} {locs : List Loc} {cells slots : Nat}
theorem retI (X : Stand p l e R s m args below meth c T locs cells slots) (hx : p.tables.exec = Jvm.exec) {pc : Nat} {Ls : Array Slot} {z : Int32} {rest : List Value} (hret : meth.sig.returnType = some .int) (hd : decode c.code pc = .ok (.ireturn, 1)) {fs : List Frame}
    (hl : ∀ (f : JFrame) (acts : List Action), f.method = m → f.locked = none → f.entered = [] → (doReturn e (T.setTop f) acts (some (.int z))).1 = T.setFrames fs) : Steps p.tables e below (T.setTop (mkF m pc Ls (.int z :: rest))) (T.setFrames fs) := by
  have hm' : T.vm.method? m = some meth := X.method'
  have hn : narrow .int (.int z) = .int z := rfl
  show Steps p.tables e below (T.setTop { method := m, pc := pc, locals := Ls, stack := _ :: rest, locked := none }) _
  jvm_step X.here [X.here.top, hx, hd, hm', hret, hn]
  first | (intro acts; rw [hl _ acts rfl rfl rfl]) | rw [hl _ _ rfl rfl rfl]
  exact Steps.refl _
theorem retJ (X : Stand p l e R s m args below meth c T locs cells slots) (hx : p.tables.exec = Jvm.exec) {pc : Nat} {Ls : Array Slot} {z : Int64} {rest : List Value} (hret : meth.sig.returnType = some .long) (hd : decode c.code pc = .ok (.lreturn, 1)) {fs : List Frame}
    (hl : ∀ (f : JFrame) (acts : List Action), f.method = m → f.locked = none → f.entered = [] → (doReturn e (T.setTop f) acts (some (.long z))).1 = T.setFrames fs) : Steps p.tables e below (T.setTop (mkF m pc Ls (.long z :: rest))) (T.setFrames fs) := by
  have hm' : T.vm.method? m = some meth := X.method'
  have hn : narrow .long (.long z) = .long z := rfl
  show Steps p.tables e below (T.setTop { method := m, pc := pc, locals := Ls, stack := _ :: rest, locked := none }) _
  jvm_step X.here [X.here.top, hx, hd, hm', hret, hn, narrow]
  first | (intro acts; rw [hl _ acts rfl rfl rfl]) | rw [hl _ _ rfl rfl rfl]
  exact Steps.refl _
theorem retR (X : Stand p l e R s m args below meth c T locs cells slots) (hx : p.tables.exec = Jvm.exec) {pc : Nat} {Ls : Array Slot} {z : Addr} {rest : List Value} {ty : FieldType} (hret : meth.sig.returnType = some ty) (hty : ty.isReference = true) (hd : decode c.code pc = .ok (.areturn, 1)) {fs : List Frame}
    (hl : ∀ (f : JFrame) (acts : List Action), f.method = m → f.locked = none → f.entered = [] → (doReturn e (T.setTop f) acts (some (.ref z))).1 = T.setFrames fs) : Steps p.tables e below (T.setTop (mkF m pc Ls (.ref z :: rest))) (T.setFrames fs) := by
  have hm' : T.vm.method? m = some meth := X.method'
  show Steps p.tables e below (T.setTop { method := m, pc := pc, locals := Ls, stack := _ :: rest, locked := none }) _
  jvm_step X.here [X.here.top, hx, hd, hm', hret, hty, Value.isRef]
  first | (intro acts; rw [hl _ acts rfl rfl rfl]) | rw [hl _ _ rfl rfl rfl]
  exact Steps.refl _
theorem lremM {tb : Tables} [Ours tb] {target : State} {g : JFrame} (h : At T m c below) (hx : tb.exec = Jvm.exec) (hg : g.method = m) {x y : Int64} {rest : List Value} (hd : decode c.code g.pc = .ok (.lrem, 1)) (hs : g.stack = .long y :: .long x :: rest) (hy : y ≠ 0)
    (hr : Steps tb e below (T.setTop { g with pc := g.pc + 1, stack := .long (x % y) :: rest }) target) : Steps tb e below (T.setTop g) target := by
  rw [← lrem_mod] at hr
  exact XS.lrem h hx hg hd hs hy hr
end New
end Jvm.RoadKit
namespace Jvm.Pilot.@@N@@
open Jvm Jvm.ClassFile Sem Op Lib Jvm.Free Jvm.Stand Jvm.LawKit Jvm.RoadKit Bundle Jvm.Pilot.@@N@@.Jvm.D
/-- a Java boolean -/
def bI (P : Prop) [Decidable P] : Int32 := if P then 1 else 0
theorem bI_pos {P : Prop} [Decidable P] (h : P) : bI P = (1 : Int32) := if_pos h
theorem bI_neg {P : Prop} [Decidable P] (h : ¬ P) : bI P = (0 : Int32) := if_neg h
theorem bI_0 {P : Prop} [Decidable P] (h : ¬ P) : bI P = 0 := if_neg h
theorem bI_ne0 {P : Prop} [Decidable P] (h : P) : ¬ bI P = 0 := by rw [bI_pos h]; decide
theorem bI_iff {P Q : Prop} [Decidable P] [Decidable Q] : bI P = bI Q ↔ (P ↔ Q) := by
  by_cases p : P <;> by_cases q : Q <;> simp [bI, p, q]
theorem nar_0 : nar .boolean (0 : Int32) = 0 := by decide
theorem nar_1 : nar .boolean (1 : Int32) = 1 := by decide
theorem nar_bI (P : Prop) [Decidable P] : nar .boolean (bI P) = bI P := by by_cases p : P <;> simp [bI, p] <;> decide
/-- the run from st ends, and Q holds of what it returns and leaves -/
def OG (p : Program) (e : Env) (below : List Frame) (s : State) (Q : Option Value → Heap → List Loc → Prop) (cc ss : Nat) (st : State) : Prop :=
  ∃ s₂ o, Steps p.tables e below st s₂ ∧ s₂.status = .running ∧ Ended s₂ below o ∧ ∃ v L, o = .returned v ∧ Q v s₂.heap L ∧ FrameEnd s o s₂ L cc ss
section Out
variable {p : Program} {l : Launch} {e : Env} {R : Room} {s : State} {m : MethodId} {args : Array Value} {below : List Frame} {meth : Method} {c : Code} {T : State} {locs : List Loc} {cells slots : Nat} {Q : Option Value → Heap → List Loc → Prop} {cc ss : Nat} {h : Heap}
theorem OG.step {st st' : State} (h : ∀ t, Steps p.tables e below st' t → Steps p.tables e below st t) (g : OG p e below s Q cc ss st') : OG p e below s Q cc ss st := by
  obtain ⟨s₂, o, h1, r⟩ := g
  exact ⟨s₂, o, h _ h1, r⟩
theorem OG.out (X : Stand p l e R s m args below meth c T locs cells slots) {v : Option Value} (hv : meth.sig.returnType = none → v = none) (hlk : meth.locks = false) {g : JFrame} (eT : T.heap = h)
    (hs : ∀ fs, (∀ (f : JFrame) (acts : List Action), f.method = m → f.locked = none → f.entered = [] → (doReturn e (T.setTop f) acts v).1 = T.setFrames fs) → Steps p.tables e below (T.setTop g) (T.setFrames fs))
    (hQ : Q v h locs) (hc : cells ≤ cc) (hl : slots ≤ ss) : OG p e below s Q cc ss (T.setTop g) := by
  obtain ⟨fs, hr, hrun, hended, hW, hsame⟩ := X.leave (v := v) hv hlk
  exact ⟨_, _, hs fs hr, hrun, hended, _, _, rfl, by show Q v T.heap locs; rw [eT]; exact hQ, ⟨_, rfl⟩, hW, hsame.mono hc hl⟩
theorem OG.retV (X : Stand p l e R s m args below meth c T locs cells slots) (hx : p.tables.exec = Jvm.exec) (hlk : meth.locks = false) (hret : meth.sig.returnType = none) {pc : Nat} {Ls : Array Slot} (hd : decode c.code pc = .ok (.return_, 1)) (eT : T.heap = h) (hQ : Q none h locs) (hc : cells ≤ cc) (hl : slots ≤ ss) : OG p e below s Q cc ss (T.setTop (mkF m pc Ls [])) :=
  OG.out X (fun _ => rfl) hlk eT (fun _ hr => X.returnOut hx hret hd hr) hQ hc hl
theorem OG.retI (X : Stand p l e R s m args below meth c T locs cells slots) (hx : p.tables.exec = Jvm.exec) (hlk : meth.locks = false) (hret : meth.sig.returnType = some .int) {pc : Nat} {Ls : Array Slot} {z : Int32} {rest : List Value} (hd : decode c.code pc = .ok (.ireturn, 1)) (eT : T.heap = h) (hQ : Q (some (.int z)) h locs) (hc : cells ≤ cc) (hl : slots ≤ ss) : OG p e below s Q cc ss (T.setTop (mkF m pc Ls (.int z :: rest))) :=
  OG.out X (fun h => by rw [hret] at h; cases h) hlk eT (fun _ hr => Jvm.RoadKit.retI X hx hret hd hr) hQ hc hl
theorem OG.retJ (X : Stand p l e R s m args below meth c T locs cells slots) (hx : p.tables.exec = Jvm.exec) (hlk : meth.locks = false) (hret : meth.sig.returnType = some .long) {pc : Nat} {Ls : Array Slot} {z : Int64} {rest : List Value} (hd : decode c.code pc = .ok (.lreturn, 1)) (eT : T.heap = h) (hQ : Q (some (.long z)) h locs) (hc : cells ≤ cc) (hl : slots ≤ ss) : OG p e below s Q cc ss (T.setTop (mkF m pc Ls (.long z :: rest))) :=
  OG.out X (fun h => by rw [hret] at h; cases h) hlk eT (fun _ hr => Jvm.RoadKit.retJ X hx hret hd hr) hQ hc hl
theorem OG.retR (X : Stand p l e R s m args below meth c T locs cells slots) (hx : p.tables.exec = Jvm.exec) (hlk : meth.locks = false) {ty : FieldType} (hret : meth.sig.returnType = some ty) (hty : ty.isReference = true) {pc : Nat} {Ls : Array Slot} {z : Addr} {rest : List Value} (hd : decode c.code pc = .ok (.areturn, 1)) (eT : T.heap = h) (hQ : Q (some (.ref z)) h locs) (hc : cells ≤ cc) (hl : slots ≤ ss) : OG p e below s Q cc ss (T.setTop (mkF m pc Ls (.ref z :: rest))) :=
  OG.out X (fun h => by rw [hret] at h; cases h) hlk eT (fun _ hr => Jvm.RoadKit.retR X hx hret hty hd hr) hQ hc hl
theorem OG.retZ (X : Stand p l e R s m args below meth c T locs cells slots) (hx : p.tables.exec = Jvm.exec) (hlk : meth.locks = false) (hret : meth.sig.returnType = some .boolean) {pc : Nat} {Ls : Array Slot} {z z' : Int32} {rest : List Value} (hd : decode c.code pc = .ok (.ireturn, 1)) (hz : nar .boolean z = z') (eT : T.heap = h) (hQ : Q (some (.int z')) h locs) (hc : cells ≤ cc) (hl : slots ≤ ss) : OG p e below s Q cc ss (T.setTop (mkF m pc Ls (.int z :: rest))) := by
  subst hz
  exact OG.out X (fun h => by rw [hret] at h; cases h) hlk eT (fun _ hr => retN X hx (t := .boolean) hret (by simp) hd hr) hQ hc hl
end Out
def own_vs (M : Nat → Nat) : List Value := [.int (Int32.ofNat (M 0)), .int (Int32.ofNat (M 1)), .int (Int32.ofNat (M 2)), .int (Int32.ofNat (M 3))]
def own_up (M : Nat → Nat) (i v : Nat) : Nat → Nat := fun j => if j = i then v else M j
def own_z : Nat → Nat := fun _ => 0
theorem own_lo {x : Nat} (h : x < 4) : ¬ Int32.ofNat x < 0 := by
  match x, h with
  | 0, _ => decide
  | 1, _ => decide
  | 2, _ => decide
  | 3, _ => decide
theorem own_hi {x : Nat} (h : x < 4) : Int32.ofNat x < (4 : Int32) := by
  match x, h with
  | 0, _ => decide
  | 1, _ => decide
  | 2, _ => decide
  | 3, _ => decide
theorem own_cl {x : Nat} (h : x < 4) : (Int32.ofNat x).toNatClampNeg = x := by
  match x, h with
  | 0, _ => decide
  | 1, _ => decide
  | 2, _ => decide
  | 3, _ => decide
theorem own_get (M : Nat → Nat) {x : Nat} (h : x < 4) : (own_vs M).getD (Int32.ofNat x).toNatClampNeg (.int (0 : Int32)) = .int (Int32.ofNat (M x)) := by
  rw [own_cl h]
  match x, h with
  | 0, _ => rfl
  | 1, _ => rfl
  | 2, _ => rfl
  | 3, _ => rfl
theorem own_len (M : Nat → Nat) {x : Nat} (h : x < 4) : x < (own_vs M).length := h
theorem own_set (M : Nat → Nat) {x : Nat} (h : x < 4) (v : Nat) : (own_vs M).set x (.int (Int32.ofNat v)) = own_vs (own_up M x v) := by
  match x, h with
  | 0, _ => rfl
  | 1, _ => rfl
  | 2, _ => rfl
  | 3, _ => rfl
theorem own_toI {a : Nat} (h : a ≤ 4) : (Int32.ofNat a).toInt = a := by
  match a, h with
  | 0, _ => decide
  | 1, _ => decide
  | 2, _ => decide
  | 3, _ => decide
  | 4, _ => decide
theorem own_lt {a b : Nat} (ha : a ≤ 4) (hb : b ≤ 4) : Int32.ofNat a < Int32.ofNat b ↔ a < b := by
  rw [Int32.lt_iff_toInt_lt, own_toI ha, own_toI hb]; omega
theorem own_eq {a b : Nat} (ha : a < 4) (hb : b < 4) (h : Int32.ofNat a = Int32.ofNat b) : a = b := by
  have := congrArg Int32.toInt h
  rw [own_toI (Nat.le_of_lt ha), own_toI (Nat.le_of_lt hb)] at this; omega
theorem own_inc {n : Nat} : Int32.ofNat n + (1 : Int32) = Int32.ofNat (n + 1) := by
  rw [Int32.ofNat_add]; rfl
theorem own_dec {n : Nat} (h : 1 ≤ n) : Int32.ofNat n - (1 : Int32) = Int32.ofNat (n - 1) := by
  obtain ⟨k, rfl⟩ : ∃ k, n = k + 1 := ⟨n - 1, by omega⟩
  rw [← own_inc, Nat.add_sub_cancel, Int32.add_sub_cancel]
def own_Inv (M P : Nat → Nat) (n : Nat) : Prop := (∀ i, M i < 4) ∧ (∀ i, P i < 4) ∧ n ≤ 4 ∧ ∀ i, i < n → P (M i) = i
def own_J (M P : Nat → Nat) (n k : Nat) : Prop := own_Inv M P n ∧ k < 16 ∧ ∀ y, y < 4 → ((P y < n ∧ M (P y) = y) ↔ k.testBit y = true)
section Sets
variable {M P : Nat → Nat} {n x k : Nat}
theorem own_room4 (I : own_Inv M P n) (hx : x < 4) (h : ¬ (P x < n ∧ M (P x) = x)) : n < 4 := by
  obtain ⟨h1, h2, h3, h4⟩ := I
  by_cases q : n < 4
  · exact q
  exfalso
  have hn : n = 4 := by omega
  subst hn
  have e0 := h4 0 (by omega)
  have e1 := h4 1 (by omega)
  have e2 := h4 2 (by omega)
  have e3 := h4 3 (by omega)
  have key : ∀ i, i < 4 → M i ≠ x := fun i hi z => h ⟨by rw [← z, h4 i hi]; exact hi, by rw [← z, h4 i hi]⟩
  have k0 := key 0 (by omega)
  have k1 := key 1 (by omega)
  have k2 := key 2 (by omega)
  have k3 := key 3 (by omega)
  have d : ∀ i j, i < 4 → j < 4 → i ≠ j → M i ≠ M j := fun i j hi hj hij z => hij (by rw [← h4 i hi, ← h4 j hj, z])
  have d01 := d 0 1 (by omega) (by omega) (by omega)
  have d02 := d 0 2 (by omega) (by omega) (by omega)
  have d03 := d 0 3 (by omega) (by omega) (by omega)
  have d12 := d 1 2 (by omega) (by omega) (by omega)
  have d13 := d 1 3 (by omega) (by omega) (by omega)
  have d23 := d 2 3 (by omega) (by omega) (by omega)
  have m0 := h1 0
  have m1 := h1 1
  have m2 := h1 2
  have m3 := h1 3
  generalize M 0 = a0 at *
  generalize M 1 = a1 at *
  generalize M 2 = a2 at *
  generalize M 3 = a3 at *
  omega
theorem own_upE (M : Nat → Nat) (i v : Nat) : own_up M i v i = v := if_pos rfl
theorem own_upN (M : Nat → Nat) {i v j : Nat} (h : j ≠ i) : own_up M i v j = M j := if_neg h
theorem own_upL (h : ∀ i, M i < 4) {i v : Nat} (hv : v < 4) : ∀ j, own_up M i v j < 4 := fun j => by
  unfold own_up; split
  · exact hv
  · exact h j
theorem own_add0 (h : P x < n ∧ M (P x) = x) : ∀ y, y < 4 → ((P y < n ∧ M (P y) = y) ↔ ((P y < n ∧ M (P y) = y) ∨ y = x)) := fun y _ =>
  ⟨Or.inl, fun z => z.elim id fun q => by subst q; exact h⟩
theorem own_addI (I : own_Inv M P n) (hx : x < 4) (h : ¬ (P x < n ∧ M (P x) = x)) : own_Inv (own_up M n x) (own_up P x n) (n + 1) := by
  have hn := own_room4 I hx h
  obtain ⟨h1, h2, h3, h4⟩ := I
  refine ⟨own_upL h1 hx, own_upL h2 hn, by omega, fun i hi => ?_⟩
  by_cases q : i = n
  · subst q; rw [own_upE, own_upE]
  · rw [own_upN M q]
    have hi' : i < n := by omega
    rw [own_upN P]
    · exact h4 i hi'
    · intro z
      exact h ⟨by rw [← z, h4 i hi']; exact hi', by rw [← z, h4 i hi']⟩
theorem own_addC (I : own_Inv M P n) (hx : x < 4) (h : ¬ (P x < n ∧ M (P x) = x)) : ∀ y, y < 4 → ((own_up P x n y < n + 1 ∧ own_up M n x (own_up P x n y) = y) ↔ ((P y < n ∧ M (P y) = y) ∨ y = x)) := fun y hy => by
  obtain ⟨h1, h2, h3, h4⟩ := I
  by_cases q : y = x
  · subst q
    rw [own_upE, own_upE]
    exact ⟨fun _ => Or.inr rfl, fun _ => ⟨by omega, rfl⟩⟩
  · rw [own_upN P q]
    by_cases r : P y = n
    · rw [r, own_upE]
      exact ⟨fun z => absurd z.2.symm q, fun z => z.elim (fun u => absurd u.1 (by omega)) (fun u => absurd u q)⟩
    · rw [own_upN M r]
      exact ⟨fun z => Or.inl ⟨by omega, z.2⟩, fun z => z.elim (fun u => ⟨by omega, u.2⟩) (fun u => absurd u q)⟩
theorem own_rem0 (h : ¬ (P x < n ∧ M (P x) = x)) : ∀ y, y < 4 → ((P y < n ∧ M (P y) = y) ↔ ((P y < n ∧ M (P y) = y) ∧ y ≠ x)) := fun y _ =>
  ⟨fun z => ⟨z, fun q => by subst q; exact h z⟩, fun z => z.1⟩
theorem own_one (I : own_Inv M P n) (h : P x < n ∧ M (P x) = x) : 1 ≤ n := by have := h.1; omega
theorem own_pred (I : own_Inv M P n) (h : P x < n ∧ M (P x) = x) : n - 1 < 4 := by have := I.2.2.1; have := h.1; omega
theorem own_remI (I : own_Inv M P n) (hx : x < 4) (h : P x < n ∧ M (P x) = x) : own_Inv (own_up M (P x) (M (n - 1))) (own_up P (M (n - 1)) (P x)) (n - 1) := by
  obtain ⟨h1, h2, h3, h4⟩ := I
  have hp := h.1
  refine ⟨own_upL h1 (h1 _), own_upL h2 (h2 _), by omega, fun i hi => ?_⟩
  by_cases q : i = P x
  · rw [q, own_upE, own_upE]
  · rw [own_upN M q, own_upN P]
    · exact h4 i (by omega)
    · intro z
      have e1 := h4 i (by omega)
      have e2 := h4 (n - 1) (by omega)
      rw [z, e2] at e1
      omega
theorem own_remC (I : own_Inv M P n) (hx : x < 4) (h : P x < n ∧ M (P x) = x) : ∀ y, y < 4 → ((own_up P (M (n - 1)) (P x) y < n - 1 ∧ own_up M (P x) (M (n - 1)) (own_up P (M (n - 1)) (P x) y) = y) ↔ ((P y < n ∧ M (P y) = y) ∧ y ≠ x)) := fun y hy => by
  obtain ⟨h1, h2, h3, h4⟩ := I
  have hp := h.1
  have el := h4 (n - 1) (by omega)
  by_cases q : y = M (n - 1)
  · rw [q, own_upE, own_upE, el]
    constructor
    · rintro ⟨z1, -⟩
      refine ⟨⟨by omega, rfl⟩, fun w => ?_⟩
      rw [w] at el; omega
    · rintro ⟨-, w⟩
      refine ⟨?_, rfl⟩
      by_cases r : P x = n - 1
      · exact absurd (by rw [← r]; exact h.2) w
      · omega
  · rw [own_upN P q]
    by_cases r : P y = P x
    · rw [r, own_upE]
      constructor
      · rintro ⟨-, z⟩; exact absurd z.symm q
      · rintro ⟨⟨-, z⟩, w⟩; exact absurd (by rw [← z]; exact h.2) w
    · rw [own_upN M r]
      constructor
      · rintro ⟨z1, z2⟩
        exact ⟨⟨by omega, z2⟩, fun w => r (by rw [w])⟩
      · rintro ⟨⟨z1, z2⟩, w⟩
        refine ⟨?_, z2⟩
        by_cases t : P y = n - 1
        · rw [t] at z2; exact absurd z2.symm q
        · omega
end Sets
theorem own_or4 : ∀ k : Fin 16, ∀ x : Fin 4, (k.val ||| (1 <<< x.val)) < 16 ∧ Int32.ofNat k.val ||| ((1 : Int32) <<< (Int32.ofNat x.val &&& 31)) = Int32.ofNat (k.val ||| (1 <<< x.val)) ∧ ∀ y : Fin 4, ((k.val ||| (1 <<< x.val)).testBit y.val = true ↔ (k.val.testBit y.val = true ∨ y = x)) := by decide +kernel
theorem own_and4 : ∀ k : Fin 16, ∀ x : Fin 4, (k.val &&& (15 - (1 <<< x.val))) < 16 ∧ Int32.ofNat k.val &&& (((1 : Int32) <<< (Int32.ofNat x.val &&& 31)) ^^^ (-1 : Int32)) = Int32.ofNat (k.val &&& (15 - (1 <<< x.val))) ∧ ∀ y : Fin 4, ((k.val &&& (15 - (1 <<< x.val))).testBit y.val = true ↔ (k.val.testBit y.val = true ∧ y ≠ x)) := by decide +kernel
theorem own_bit4 : ∀ k : Fin 16, ∀ x : Fin 4, (¬ ((((Int32.ofNat k.val).toUInt32 >>> (Int32.ofNat x.val &&& 31).toUInt32).toInt32) &&& (1 : Int32)) = (0 : Int32)) ↔ k.val.testBit x.val = true := by decide +kernel
theorem own_or {k x : Nat} (hk : k < 16) (hx : x < 4) : (Int32.ofNat k ||| ((1 : Int32) <<< (Int32.ofNat x &&& 31))) = Int32.ofNat (k ||| (1 <<< x)) := (own_or4 ⟨k, hk⟩ ⟨x, hx⟩).2.1
theorem own_and {k x : Nat} (hk : k < 16) (hx : x < 4) : (Int32.ofNat k &&& (((1 : Int32) <<< (Int32.ofNat x &&& 31)) ^^^ (-1 : Int32))) = Int32.ofNat (k &&& (15 - (1 <<< x))) := (own_and4 ⟨k, hk⟩ ⟨x, hx⟩).2.1
theorem own_Jadd {M P M2 P2 : Nat → Nat} {n n2 k x : Nat} (J : own_J M P n k) (hx : x < 4) (I2 : own_Inv M2 P2 n2) (c : ∀ y, y < 4 → ((P2 y < n2 ∧ M2 (P2 y) = y) ↔ ((P y < n ∧ M (P y) = y) ∨ y = x))) : own_J M2 P2 n2 (k ||| (1 <<< x)) := by
  have o := own_or4 ⟨k, J.2.1⟩ ⟨x, hx⟩
  refine ⟨I2, o.1, fun y hy => ?_⟩
  rw [c y hy, J.2.2 y hy]
  have := (o.2.2 ⟨y, hy⟩)
  simp only [Fin.mk.injEq] at this
  exact this.symm
theorem own_Jrem {M P M2 P2 : Nat → Nat} {n n2 k x : Nat} (J : own_J M P n k) (hx : x < 4) (I2 : own_Inv M2 P2 n2) (c : ∀ y, y < 4 → ((P2 y < n2 ∧ M2 (P2 y) = y) ↔ ((P y < n ∧ M (P y) = y) ∧ y ≠ x))) : own_J M2 P2 n2 (k &&& (15 - (1 <<< x))) := by
  have o := own_and4 ⟨k, J.2.1⟩ ⟨x, hx⟩
  refine ⟨I2, o.1, fun y hy => ?_⟩
  rw [c y hy, J.2.2 y hy]
  have := (o.2.2 ⟨y, hy⟩)
  simp only [ne_eq, Fin.mk.injEq] at this
  exact this.symm
theorem own_Jclr {M P : Nat → Nat} {n k : Nat} (J : own_J M P n k) : own_J M P 0 0 :=
  ⟨⟨J.1.1, J.1.2.1, by omega, fun i hi => absurd hi (by omega)⟩, by omega, fun y hy => ⟨fun z => absurd z.1 (by omega), fun z => by simp at z⟩⟩
theorem own_J0 : own_J own_z own_z 0 0 :=
  ⟨⟨fun _ => by show 0 < 4; decide, fun _ => by show 0 < 4; decide, by omega, fun i hi => absurd hi (by omega)⟩, by omega, fun y hy => ⟨fun z => absurd z.1 (by omega), fun z => by simp at z⟩⟩
theorem own_fin {M P : Nat → Nat} {n k x : Nat} (J : own_J M P n k) (hx : x < 4) : (P x < n ∧ M (P x) = x) ↔ ¬ ((((Int32.ofNat k).toUInt32 >>> (Int32.ofNat x &&& 31).toUInt32).toInt32) &&& (1 : Int32)) = (0 : Int32) :=
  (J.2.2 x hx).trans (own_bit4 ⟨k, J.2.1⟩ ⟨x, hx⟩).symm
theorem own_small (z : Int32) : ∃ x : Nat, x < 4 ∧ (z &&& (3 : Int32)) = Int32.ofNat x := by
  have e := c_mask z (3 : Int32) 2 (by decide) (by decide)
  refine ⟨(z &&& (3 : Int32)).toInt.toNat, by omega, ?_⟩
  apply Int32.toInt_inj.mp
  rw [own_toI (by omega)]; omega

theorem d1_0 : decode prog_34_method_1_code 0 = .ok (.aload_n 0, 1) := by decide +kernel
theorem d1_1 : decode prog_34_method_1_code 1 = .ok (.invokespecial 1, 3) := by decide +kernel
theorem d1_4 : decode prog_34_method_1_code 4 = .ok (.aload_n 0, 1) := by decide +kernel
theorem d1_5 : decode prog_34_method_1_code 5 = .ok (.iload_n 1, 1) := by decide +kernel
theorem d1_6 : decode prog_34_method_1_code 6 = .ok (.newarray .int, 2) := by decide +kernel
theorem d1_8 : decode prog_34_method_1_code 8 = .ok (.putfield 7, 3) := by decide +kernel
theorem d1_11 : decode prog_34_method_1_code 11 = .ok (.aload_n 0, 1) := by decide +kernel
theorem d1_12 : decode prog_34_method_1_code 12 = .ok (.iload_n 1, 1) := by decide +kernel
theorem d1_13 : decode prog_34_method_1_code 13 = .ok (.newarray .int, 2) := by decide +kernel
theorem d1_15 : decode prog_34_method_1_code 15 = .ok (.putfield 13, 3) := by decide +kernel
theorem d1_18 : decode prog_34_method_1_code 18 = .ok (.return_, 1) := by decide +kernel
theorem pn_com_example_tidegraph_tidegraph_amd64_SparseSet : plainName "com/example/tidegraph/tidegraph/amd64/SparseSet" = true := by first | (simp [plainName, overriddenIn]; done) | decide +kernel
theorem ef_1 (m : MethodId) (x0 : Addr) (x1 : Int32) : entryFrame m #[(.ref x0), (.int x1)] 2 = mkF m 0 #[.val (.ref x0), .val (.int x1)] [] := by first | (simp [entryFrame, mkF, argsToLocals, Value.category]; done) | rfl
def Q1 (Z : State) (a1 : Addr) (u1 : Value) (u2 : Value) (h0 : Heap) (n0 : Nat) (v : Option Value) (h : Heap) (L : List Loc) : Prop := ∃ (am : Addr) (ap : Addr) (km : ClassId) (kp : ClassId), (v = none) ∧ (Fr n0 L) ∧ (Keep h0 h [a1]) ∧ (Fld Z h a1 "com/example/tidegraph/tidegraph/amd64/SparseSet" "members" "[I" (.ref am)) ∧ (Fld Z h a1 "com/example/tidegraph/tidegraph/amd64/SparseSet" "places" "[I" (.ref ap)) ∧ (Fld Z h a1 "com/example/tidegraph/tidegraph/amd64/SparseSet" "size" "I" (.int (0 : Int32))) ∧ (Arv Z h am km .int (4 : Int32) [(.int (0 : Int32)), (.int (0 : Int32)), (.int (0 : Int32)), (.int (0 : Int32))] (.int (0 : Int32))) ∧ (Arv Z h ap kp .int (4 : Int32) [(.int (0 : Int32)), (.int (0 : Int32)), (.int (0 : Int32)), (.int (0 : Int32))] (.int (0 : Int32))) ∧ (h0.size ≤ am) ∧ (h0.size ≤ ap) ∧ (am ≠ ap)
abbrev rom_1 : Room := { frames := 1, cells := 2, slots := 8, locals := 12 }
set_option maxRecDepth 65536 in
set_option maxHeartbeats 40000000 in
theorem rm1 (l : Launch) (Z : State) (a0 : Array Value) (hw : ∀ d ∈ tables_1, d.before a0 Z = true) (ws : List Jvm.Cond) (a1 : Addr) (u1 : Value) (u2 : Value) (h0 : Heap) (n0 : Nat) (Z0 : n0 ≤ h0.size) (F0_a1 : Exa Z h0 a1 "com/example/tidegraph/tidegraph/amd64/SparseSet") (F1_a1_members : Fld Z h0 a1 "com/example/tidegraph/tidegraph/amd64/SparseSet" "members" "[I" u1) (F2_a1_places : Fld Z h0 a1 "com/example/tidegraph/tidegraph/amd64/SparseSet" "places" "[I" u2) (F3_a1_size : Fld Z h0 a1 "com/example/tidegraph/tidegraph/amd64/SparseSet" "size" "I" (.int (0 : Int32))) (g_a1 : n0 ≤ a1) :
    MetFree l (⟨"com/example/tidegraph/tidegraph/amd64/SparseSet", "<init>", "(I)V"⟩ : MethodName) (head1 (Jvm.Cond.code (⟨"com/example/tidegraph/tidegraph/amd64/SparseSet", "<init>", "(I)V"⟩ : MethodName) prog_34_method_1_code 2 none :: ws) rom_1) (fun a U => a = #[(.ref a1), (.int (4 : Int32))] ∧ Z.Warmed39 U.vm ∧ U.heap = h0) (fun _ _ _ _ _ => True) (fun _ U o U' => ∃ v L, o = .returned v ∧ Q1 Z a1 u1 u2 h0 n0 v U'.heap L ∧ FrameEnd U o U' L rom_1.cells rom_1.slots) := by
  refine MetFree.of_bodySF (plainFor_of_name pn_com_example_tidegraph_tidegraph_amd64_SparseSet) hisR ?_
  intro p e s m args below meth c s₁ Bd hml0 hP hK
  obtain ⟨rfl, hZ, hh⟩ := hP
  have hx := Bd.exec
  have hby := Bd.bytes
  have hlk := Bd.notSynchronized
  have hml : c.maxLocals = 2 := hml0
  have hown : s.vm.findClass "com/example/tidegraph/tidegraph/amd64/SparseSet" = some m.cls := findClass_of_methodNamed Bd.named
  have hnm := (name_of_methodNamed Bd.named Bd.method).1
  have X0 : Stand p l e rom_1 s m #[(.ref a1), (.int (4 : Int32))] below meth c s₁ [] 0 0 := Stand.of_body Bd
  have e0 : s₁.heap = h0 := by rw [← hh, Bd.state]; rfl
  have N0 := Fr.nil n0
  have K0 : Keep h0 h0 [a1] := Keep.refl _ _
  refine (?_ : OG p e below s (Q1 Z a1 u1 u2 h0 n0) rom_1.cells rom_1.slots _)
  rw [ef_1]
  have s1 : ∀ tz, Steps p.tables e below (s₁.setTop (mkF m 1 #[.val (.ref a1), .val (.int (4 : Int32))] [(.ref a1)])) tz → Steps p.tables e below (s₁.setTop (mkF m 0 #[.val (.ref a1), .val (.int (4 : Int32))] [])) tz := by
    intro tz kz
    refine XS.aloadN X0.here hx rfl (hb hby d1_0) rfl rfl ?_
    exact kz
  refine OG.step s1 ?_
  obtain ⟨T2, X2, e2, st2⟩ := initO X0 hx hZ hown (hw _ (List.mem_of_getElem? (i := 6) rfl)) (hw _ (List.mem_of_getElem? (i := 7) rfl)) (hw _ (List.mem_of_getElem? (i := 8) rfl)) e0 (g := (mkF m 1 #[.val (.ref a1), .val (.int (4 : Int32))] [(.ref a1)])) rfl (by rw [hml]; rfl) rfl (hb hby d1_1) (by decide) (W := 0) (by show 2 * 0 + _ ≤ _; exact Nat.le_of_eq rfl) (by decide)
  refine OG.step st2 ?_
  show OG _ _ _ _ _ _ _ (T2.setTop (mkF m 4 #[.val (.ref a1), .val (.int (4 : Int32))] []))
  have s3 : ∀ tz, Steps p.tables e below (T2.setTop (mkF m 6 #[.val (.ref a1), .val (.int (4 : Int32))] [(.int (4 : Int32)), (.ref a1)])) tz → Steps p.tables e below (T2.setTop (mkF m 4 #[.val (.ref a1), .val (.int (4 : Int32))] [])) tz := by
    intro tz kz
    refine XS.aloadN X2.here hx rfl (hb hby d1_4) rfl rfl ?_
    show Steps p.tables e below (T2.setTop (mkF m 5 #[.val (.ref a1), .val (.int (4 : Int32))] [(.ref a1)])) _
    refine XS.iloadN X2.here hx rfl (hb hby d1_5) rfl ?_
    exact kz
  refine OG.step s3 ?_
  obtain ⟨T4, h4, k4, X4, e4, E4, A4, st4⟩ := newP X2 hx hZ (hw _ (List.mem_of_getElem? (i := 9) rfl)) e2 (g := (mkF m 6 #[.val (.ref a1), .val (.int (4 : Int32))] [(.int (4 : Int32)), (.ref a1)])) rfl (hb hby d1_6) rfl (by decide) (cap := 4) (by decide) (by decide) (by decide) (by decide)
  obtain ⟨b4, g4⟩ : ∃ z, z = h0.size := ⟨_, rfl⟩
  rw [← g4] at A4 st4
  have sz4 : h0.size ≤ b4 := Nat.le_trans K0.1 (Nat.le_of_eq g4.symm)
  have ge4 : n0 ≤ b4 := Nat.le_trans Z0 sz4
  have ne4_a1 : a1 ≠ b4 := Nat.ne_of_lt (Nat.lt_of_lt_of_le F0_a1.lt (Nat.le_of_eq g4.symm))
  refine OG.step st4 ?_
  have f5 := F0_a1.ext E4
  have f6 := F1_a1_members.ext E4
  have f7 := F2_a1_places.ext E4
  have f8 := F3_a1_size.ext E4
  have V4 : Arv Z h4 b4 k4 .int (4 : Int32) [(.int (0 : Int32)), (.int (0 : Int32)), (.int (0 : Int32)), (.int (0 : Int32))] (.int (0 : Int32)) := (Arv.new A4 (by decide)).pad (pad_rep [] (.int (0 : Int32)) 4)
  have K4 := K0.ext E4
  show OG _ _ _ _ _ _ _ (T4.setTop (mkF m 8 #[.val (.ref a1), .val (.int (4 : Int32))] [(.ref b4), (.ref a1)]))
  obtain ⟨T9, h9, X9, e9, W9, st9⟩ := putF X4 hx hZ hown (host := "") (Or.inl (hw _ (List.mem_of_getElem? (i := 10) rfl))) Via.refl e4 f6 f5 (Or.inr ⟨(hw _ (List.mem_of_getElem? (i := 11) rfl)), rfl, hnm⟩) (hw _ (List.mem_of_getElem? (i := 1) rfl)) (ty := (.array .int)) (by decide) rfl rfl (g := (mkF m 8 #[.val (.ref a1), .val (.int (4 : Int32))] [(.ref b4), (.ref a1)])) rfl rfl (hb hby d1_8)
  refine OG.step st9 ?_
  have fw9 := f6.same W9
  have f10 := f5.wr W9
  have f11 := f7.other W9 (Or.inr (slot_ne (Or.inr (hw _ (List.mem_of_getElem? (i := 13) rfl))) (Or.inr (hw _ (List.mem_of_getElem? (i := 11) rfl))) (by decide) (t := (.array .int)) (t' := (.array .int)) (by decide) (by decide)))
  have f12 := f8.other W9 (Or.inr (slot_ne (Or.inl (hw _ (List.mem_of_getElem? (i := 29) rfl))) (Or.inr (hw _ (List.mem_of_getElem? (i := 11) rfl))) (by decide) (t := .int) (t' := (.array .int)) (by decide) (by decide)))
  have f13 := V4.other W9 (Ne.symm ne4_a1)
  have K9 := K4.wr W9 (Or.inl (List.mem_of_getElem? (i := 0) rfl))
  have N9 := Fr.snoc X9 N0 g_a1
  show OG _ _ _ _ _ _ _ (T9.setTop (mkF m 11 #[.val (.ref a1), .val (.int (4 : Int32))] []))
  have s14 : ∀ tz, Steps p.tables e below (T9.setTop (mkF m 13 #[.val (.ref a1), .val (.int (4 : Int32))] [(.int (4 : Int32)), (.ref a1)])) tz → Steps p.tables e below (T9.setTop (mkF m 11 #[.val (.ref a1), .val (.int (4 : Int32))] [])) tz := by
    intro tz kz
    refine XS.aloadN X9.here hx rfl (hb hby d1_11) rfl rfl ?_
    show Steps p.tables e below (T9.setTop (mkF m 12 #[.val (.ref a1), .val (.int (4 : Int32))] [(.ref a1)])) _
    refine XS.iloadN X9.here hx rfl (hb hby d1_12) rfl ?_
    exact kz
  refine OG.step s14 ?_
  obtain ⟨T15, h15, k15, X15, e15, E15, A15, st15⟩ := newP X9 hx hZ (hw _ (List.mem_of_getElem? (i := 9) rfl)) e9 (g := (mkF m 13 #[.val (.ref a1), .val (.int (4 : Int32))] [(.int (4 : Int32)), (.ref a1)])) rfl (hb hby d1_13) rfl (by decide) (cap := 4) (by decide) (by decide) (by decide) (by decide)
  obtain ⟨b15, g15⟩ : ∃ z, z = h9.size := ⟨_, rfl⟩
  rw [← g15] at A15 st15
  have sz15 : h0.size ≤ b15 := Nat.le_trans K9.1 (Nat.le_of_eq g15.symm)
  have ge15 : n0 ≤ b15 := Nat.le_trans Z0 sz15
  have ne15_a1 : a1 ≠ b15 := Nat.ne_of_lt (Nat.lt_of_lt_of_le f10.lt (Nat.le_of_eq g15.symm))
  have ne15_b4 : b4 ≠ b15 := Nat.ne_of_lt (Nat.lt_of_lt_of_le f13.lt (Nat.le_of_eq g15.symm))
  refine OG.step st15 ?_
  have f16 := f10.ext E15
  have f17 := f11.ext E15
  have f18 := f12.ext E15
  have f19 := f13.ext E15
  have f20 := fw9.ext E15
  have V15 : Arv Z h15 b15 k15 .int (4 : Int32) [(.int (0 : Int32)), (.int (0 : Int32)), (.int (0 : Int32)), (.int (0 : Int32))] (.int (0 : Int32)) := (Arv.new A15 (by decide)).pad (pad_rep [] (.int (0 : Int32)) 4)
  have K15 := K9.ext E15
  show OG _ _ _ _ _ _ _ (T15.setTop (mkF m 15 #[.val (.ref a1), .val (.int (4 : Int32))] [(.ref b15), (.ref a1)]))
  obtain ⟨T21, h21, X21, e21, W21, st21⟩ := putF X15 hx hZ hown (host := "") (Or.inl (hw _ (List.mem_of_getElem? (i := 12) rfl))) Via.refl e15 f17 f16 (Or.inr ⟨(hw _ (List.mem_of_getElem? (i := 13) rfl)), rfl, hnm⟩) (hw _ (List.mem_of_getElem? (i := 1) rfl)) (ty := (.array .int)) (by decide) rfl rfl (g := (mkF m 15 #[.val (.ref a1), .val (.int (4 : Int32))] [(.ref b15), (.ref a1)])) rfl rfl (hb hby d1_15)
  refine OG.step st21 ?_
  have fw21 := f17.same W21
  have f22 := f16.wr W21
  have f23 := f18.other W21 (Or.inr (slot_ne (Or.inl (hw _ (List.mem_of_getElem? (i := 29) rfl))) (Or.inr (hw _ (List.mem_of_getElem? (i := 13) rfl))) (by decide) (t := .int) (t' := (.array .int)) (by decide) (by decide)))
  have f24 := f19.other W21 (Ne.symm ne4_a1)
  have f25 := f20.other W21 (Or.inr (slot_ne (Or.inr (hw _ (List.mem_of_getElem? (i := 11) rfl))) (Or.inr (hw _ (List.mem_of_getElem? (i := 13) rfl))) (by decide) (t := (.array .int)) (t' := (.array .int)) (by decide) (by decide)))
  have f26 := V15.other W21 (Ne.symm ne15_a1)
  have K21 := K15.wr W21 (Or.inl (List.mem_of_getElem? (i := 0) rfl))
  have N21 := Fr.snoc X21 N9 g_a1
  show OG _ _ _ _ _ _ _ (T21.setTop (mkF m 18 #[.val (.ref a1), .val (.int (4 : Int32))] []))
  exact OG.retV X21 hx hlk Bd.returns (hb hby d1_18) e21 ⟨b4, b15, k4, k15, rfl, N21, K21, f25, fw21, f23, f24, f26, sz4, sz15, ne15_b4⟩ (by decide) (by decide)
theorem d5_0 : decode prog_34_method_2_code 0 = .ok (.aload_n 0, 1) := by decide +kernel
theorem d5_1 : decode prog_34_method_2_code 1 = .ok (.getfield 13, 3) := by decide +kernel
theorem d5_4 : decode prog_34_method_2_code 4 = .ok (.iload_n 1, 1) := by decide +kernel
theorem d5_5 : decode prog_34_method_2_code 5 = .ok (.iaload, 1) := by decide +kernel
theorem d5_6 : decode prog_34_method_2_code 6 = .ok (.istore_n 2, 1) := by decide +kernel
theorem d5_7 : decode prog_34_method_2_code 7 = .ok (.iload_n 2, 1) := by decide +kernel
theorem d5_8 : decode prog_34_method_2_code 8 = .ok (.aload_n 0, 1) := by decide +kernel
theorem d5_9 : decode prog_34_method_2_code 9 = .ok (.getfield 16, 3) := by decide +kernel
theorem d5_12 : decode prog_34_method_2_code 12 = .ok (.if_icmp .ge 17, 3) := by decide +kernel
theorem d5_15 : decode prog_34_method_2_code 15 = .ok (.aload_n 0, 1) := by decide +kernel
theorem d5_16 : decode prog_34_method_2_code 16 = .ok (.getfield 7, 3) := by decide +kernel
theorem d5_19 : decode prog_34_method_2_code 19 = .ok (.iload_n 2, 1) := by decide +kernel
theorem d5_20 : decode prog_34_method_2_code 20 = .ok (.iaload, 1) := by decide +kernel
theorem d5_21 : decode prog_34_method_2_code 21 = .ok (.iload_n 1, 1) := by decide +kernel
theorem d5_22 : decode prog_34_method_2_code 22 = .ok (.if_icmp .ne 7, 3) := by decide +kernel
theorem d5_25 : decode prog_34_method_2_code 25 = .ok (.iconst 1, 1) := by decide +kernel
theorem d5_26 : decode prog_34_method_2_code 26 = .ok (.goto 4, 3) := by decide +kernel
theorem d5_29 : decode prog_34_method_2_code 29 = .ok (.iconst 0, 1) := by decide +kernel
theorem d5_30 : decode prog_34_method_2_code 30 = .ok (.ireturn, 1) := by decide +kernel
theorem ef_5 (m : MethodId) (x0 : Addr) (x1 : Int32) : entryFrame m #[(.ref x0), (.int x1)] 3 = mkF m 0 #[.val (.ref x0), .val (.int x1), .unset] [] := by first | (simp [entryFrame, mkF, argsToLocals, Value.category]; done) | rfl
def Q5 (Z : State) (a1 : Addr) (x : Nat) (am : Addr) (ap : Addr) (km : ClassId) (kp : ClassId) (M : Nat → Nat) (P : Nat → Nat) (n : Nat) (h0 : Heap) (n0 : Nat) (v : Option Value) (h : Heap) (L : List Loc) : Prop := (v = some (.int (bI (P x < n ∧ M (P x) = x)))) ∧ (Fr n0 L) ∧ (h = h0)
abbrev rom_5 : Room := { frames := 0, cells := 0, slots := 0, locals := 0 }
set_option maxRecDepth 65536 in
set_option maxHeartbeats 40000000 in
theorem rm5 (l : Launch) (Z : State) (a0 : Array Value) (hw : ∀ d ∈ tables_1, d.before a0 Z = true) (ws : List Jvm.Cond) (a1 : Addr) (x : Nat) (am : Addr) (ap : Addr) (km : ClassId) (kp : ClassId) (M : Nat → Nat) (P : Nat → Nat) (n : Nat) (h0 : Heap) (n0 : Nat) (Z0 : n0 ≤ h0.size) (F0_a1 : Exa Z h0 a1 "com/example/tidegraph/tidegraph/amd64/SparseSet") (F1_a1_members : Fld Z h0 a1 "com/example/tidegraph/tidegraph/amd64/SparseSet" "members" "[I" (.ref am)) (F2_a1_places : Fld Z h0 a1 "com/example/tidegraph/tidegraph/amd64/SparseSet" "places" "[I" (.ref ap)) (F3_a1_size : Fld Z h0 a1 "com/example/tidegraph/tidegraph/amd64/SparseSet" "size" "I" (.int (Int32.ofNat n))) (F4_am : Arv Z h0 am km .int (4 : Int32) (own_vs M) (.int (0 : Int32))) (F5_ap : Arv Z h0 ap kp .int (4 : Int32) (own_vs P) (.int (0 : Int32))) (I : own_Inv M P n) (hx4 : x < 4) :
    MetFree l (⟨"com/example/tidegraph/tidegraph/amd64/SparseSet", "contains", "(I)Z"⟩ : MethodName) (head1 (Jvm.Cond.code (⟨"com/example/tidegraph/tidegraph/amd64/SparseSet", "contains", "(I)Z"⟩ : MethodName) prog_34_method_2_code 3 (some .boolean) :: ws) rom_5) (fun a U => a = #[(.ref a1), (.int (Int32.ofNat x))] ∧ Z.Warmed39 U.vm ∧ U.heap = h0) (fun _ _ _ _ _ => True) (fun _ U o U' => ∃ v L, o = .returned v ∧ Q5 Z a1 x am ap km kp M P n h0 n0 v U'.heap L ∧ FrameEnd U o U' L rom_5.cells rom_5.slots) := by
  refine MetFree.of_bodySF (plainFor_of_name pn_com_example_tidegraph_tidegraph_amd64_SparseSet) hisR ?_
  intro p e s m args below meth c s₁ Bd hml0 hP hK
  obtain ⟨rfl, hZ, hh⟩ := hP
  have hx := Bd.exec
  have hby := Bd.bytes
  have hlk := Bd.notSynchronized
  have hml : c.maxLocals = 3 := hml0
  have hown : s.vm.findClass "com/example/tidegraph/tidegraph/amd64/SparseSet" = some m.cls := findClass_of_methodNamed Bd.named
  have hnm := (name_of_methodNamed Bd.named Bd.method).1
  have X0 : Stand p l e rom_5 s m #[(.ref a1), (.int (Int32.ofNat x))] below meth c s₁ [] 0 0 := Stand.of_body Bd
  have e0 : s₁.heap = h0 := by rw [← hh, Bd.state]; rfl
  have N0 := Fr.nil n0
  have K0 : Keep h0 h0 [] := Keep.refl _ _
  refine (?_ : OG p e below s (Q5 Z a1 x am ap km kp M P n h0 n0) rom_5.cells rom_5.slots _)
  rw [ef_5]
  have s1 : ∀ tz, Steps p.tables e below (s₁.setTop (mkF m 1 #[.val (.ref a1), .val (.int (Int32.ofNat x)), .unset] [(.ref a1)])) tz → Steps p.tables e below (s₁.setTop (mkF m 0 #[.val (.ref a1), .val (.int (Int32.ofNat x)), .unset] [])) tz := by
    intro tz kz
    refine XS.aloadN X0.here hx rfl (hb hby d5_0) rfl rfl ?_
    exact kz
  refine OG.step s1 ?_
  obtain ⟨T2, X2, e2, st2⟩ := getF X0 hx hZ hown (host := "") (Or.inl (hw _ (List.mem_of_getElem? (i := 12) rfl))) Via.refl e0 F2_a1_places (g := (mkF m 1 #[.val (.ref a1), .val (.int (Int32.ofNat x)), .unset] [(.ref a1)])) rfl rfl (hb hby d5_1)
  refine OG.step st2 ?_
  show OG _ _ _ _ _ _ _ (T2.setTop (mkF m 4 #[.val (.ref a1), .val (.int (Int32.ofNat x)), .unset] [(.ref ap)]))
  have s3 : ∀ tz, Steps p.tables e below (T2.setTop (mkF m 5 #[.val (.ref a1), .val (.int (Int32.ofNat x)), .unset] [(.int (Int32.ofNat x)), (.ref ap)])) tz → Steps p.tables e below (T2.setTop (mkF m 4 #[.val (.ref a1), .val (.int (Int32.ofNat x)), .unset] [(.ref ap)])) tz := by
    intro tz kz
    refine XS.iloadN X2.here hx rfl (hb hby d5_4) rfl ?_
    exact kz
  refine OG.step s3 ?_
  have av4 := F5_ap
  obtain ⟨cl4, Ar4, q4, S4, Nn4, H4, G4⟩ := av4
  have hin4 : ¬ ((Int32.ofNat x) < 0 ∨ cl4.slots.size ≤ ((Int32.ofNat x)).toNatClampNeg) := inb_of S4 ⟨(own_lo hx4), (own_hi hx4)⟩
  have hat4 : cl4.slots[((Int32.ofNat x)).toNatClampNeg]? = some (.int (Int32.ofNat (P x))) := H4.at hin4 (own_get P hx4)
  refine OG.step (X2.iaload hx (j := (Int32.ofNat x)) (v := (.int (Int32.ofNat (P x)))) (by rw [e2]; exact Ar4.1) (State.isArrayOf_alike hZ.alike Ar4.2.1) Ar4.2.2 hin4 hat4 (g := (mkF m 5 #[.val (.ref a1), .val (.int (Int32.ofNat x)), .unset] [(.int (Int32.ofNat x)), (.ref ap)])) rfl rfl (hb hby d5_5)) ?_
  show OG _ _ _ _ _ _ _ (T2.setTop (mkF m 6 #[.val (.ref a1), .val (.int (Int32.ofNat x)), .unset] [(.int (Int32.ofNat (P x)))]))
  have s5 : ∀ tz, Steps p.tables e below (T2.setTop (mkF m 9 #[.val (.ref a1), .val (.int (Int32.ofNat x)), .val (.int (Int32.ofNat (P x)))] [(.ref a1), (.int (Int32.ofNat (P x)))])) tz → Steps p.tables e below (T2.setTop (mkF m 6 #[.val (.ref a1), .val (.int (Int32.ofNat x)), .unset] [(.int (Int32.ofNat (P x)))])) tz := by
    intro tz kz
    refine XS.istoreN X2.here hx rfl (hb hby d5_6) rfl (l' := #[.val (.ref a1), .val (.int (Int32.ofNat x)), .val (.int (Int32.ofNat (P x)))]) rfl ?_
    show Steps p.tables e below (T2.setTop (mkF m 7 #[.val (.ref a1), .val (.int (Int32.ofNat x)), .val (.int (Int32.ofNat (P x)))] [])) _
    refine XS.iloadN X2.here hx rfl (hb hby d5_7) rfl ?_
    show Steps p.tables e below (T2.setTop (mkF m 8 #[.val (.ref a1), .val (.int (Int32.ofNat x)), .val (.int (Int32.ofNat (P x)))] [(.int (Int32.ofNat (P x)))])) _
    refine XS.aloadN X2.here hx rfl (hb hby d5_8) rfl rfl ?_
    exact kz
  refine OG.step s5 ?_
  obtain ⟨T6, X6, e6, st6⟩ := getF X2 hx hZ hown (host := "") (Or.inl (hw _ (List.mem_of_getElem? (i := 28) rfl))) Via.refl e2 F3_a1_size (g := (mkF m 9 #[.val (.ref a1), .val (.int (Int32.ofNat x)), .val (.int (Int32.ofNat (P x)))] [(.ref a1), (.int (Int32.ofNat (P x)))])) rfl rfl (hb hby d5_9)
  refine OG.step st6 ?_
  show OG _ _ _ _ _ _ _ (T6.setTop (mkF m 12 #[.val (.ref a1), .val (.int (Int32.ofNat x)), .val (.int (Int32.ofNat (P x)))] [(.int (Int32.ofNat n)), (.int (Int32.ofNat (P x)))]))
  by_cases hc12 : (Int32.ofNat (P x)) < (Int32.ofNat n)
  · have s7 : ∀ tz, Steps p.tables e below (T6.setTop (mkF m 16 #[.val (.ref a1), .val (.int (Int32.ofNat x)), .val (.int (Int32.ofNat (P x)))] [(.ref a1)])) tz → Steps p.tables e below (T6.setTop (mkF m 12 #[.val (.ref a1), .val (.int (Int32.ofNat x)), .val (.int (Int32.ofNat (P x)))] [(.int (Int32.ofNat n)), (.int (Int32.ofNat (P x)))])) tz := by
      intro tz kz
      refine XS.icmpNo X6.here hx rfl (hb hby d5_12) rfl (tlt hc12).2.1 ?_
      show Steps p.tables e below (T6.setTop (mkF m 15 #[.val (.ref a1), .val (.int (Int32.ofNat x)), .val (.int (Int32.ofNat (P x)))] [])) _
      refine XS.aloadN X6.here hx rfl (hb hby d5_15) rfl rfl ?_
      exact kz
    refine OG.step s7 ?_
    obtain ⟨T8, X8, e8, st8⟩ := getF X6 hx hZ hown (host := "") (Or.inl (hw _ (List.mem_of_getElem? (i := 10) rfl))) Via.refl e6 F1_a1_members (g := (mkF m 16 #[.val (.ref a1), .val (.int (Int32.ofNat x)), .val (.int (Int32.ofNat (P x)))] [(.ref a1)])) rfl rfl (hb hby d5_16)
    refine OG.step st8 ?_
    show OG _ _ _ _ _ _ _ (T8.setTop (mkF m 19 #[.val (.ref a1), .val (.int (Int32.ofNat x)), .val (.int (Int32.ofNat (P x)))] [(.ref am)]))
    have s9 : ∀ tz, Steps p.tables e below (T8.setTop (mkF m 20 #[.val (.ref a1), .val (.int (Int32.ofNat x)), .val (.int (Int32.ofNat (P x)))] [(.int (Int32.ofNat (P x))), (.ref am)])) tz → Steps p.tables e below (T8.setTop (mkF m 19 #[.val (.ref a1), .val (.int (Int32.ofNat x)), .val (.int (Int32.ofNat (P x)))] [(.ref am)])) tz := by
      intro tz kz
      refine XS.iloadN X8.here hx rfl (hb hby d5_19) rfl ?_
      exact kz
    refine OG.step s9 ?_
    have av10 := F4_am
    obtain ⟨cl10, Ar10, q10, S10, Nn10, H10, G10⟩ := av10
    have hin10 : ¬ ((Int32.ofNat (P x)) < 0 ∨ cl10.slots.size ≤ ((Int32.ofNat (P x))).toNatClampNeg) := inb_of S10 ⟨(own_lo (I.2.1 x)), (own_hi (I.2.1 x))⟩
    have hat10 : cl10.slots[((Int32.ofNat (P x))).toNatClampNeg]? = some (.int (Int32.ofNat (M ((P x))))) := H10.at hin10 (own_get M (I.2.1 x))
    refine OG.step (X8.iaload hx (j := (Int32.ofNat (P x))) (v := (.int (Int32.ofNat (M ((P x)))))) (by rw [e8]; exact Ar10.1) (State.isArrayOf_alike hZ.alike Ar10.2.1) Ar10.2.2 hin10 hat10 (g := (mkF m 20 #[.val (.ref a1), .val (.int (Int32.ofNat x)), .val (.int (Int32.ofNat (P x)))] [(.int (Int32.ofNat (P x))), (.ref am)])) rfl rfl (hb hby d5_20)) ?_
    show OG _ _ _ _ _ _ _ (T8.setTop (mkF m 21 #[.val (.ref a1), .val (.int (Int32.ofNat x)), .val (.int (Int32.ofNat (P x)))] [(.int (Int32.ofNat (M ((P x)))))]))
    have s11 : ∀ tz, Steps p.tables e below (T8.setTop (mkF m 22 #[.val (.ref a1), .val (.int (Int32.ofNat x)), .val (.int (Int32.ofNat (P x)))] [(.int (Int32.ofNat x)), (.int (Int32.ofNat (M ((P x)))))])) tz → Steps p.tables e below (T8.setTop (mkF m 21 #[.val (.ref a1), .val (.int (Int32.ofNat x)), .val (.int (Int32.ofNat (P x)))] [(.int (Int32.ofNat (M ((P x)))))])) tz := by
      intro tz kz
      refine XS.iloadN X8.here hx rfl (hb hby d5_21) rfl ?_
      exact kz
    refine OG.step s11 ?_
    by_cases hc22 : (Int32.ofNat (M ((P x)))) = (Int32.ofNat x)
    · have s12 : ∀ tz, Steps p.tables e below (T8.setTop (mkF m 30 #[.val (.ref a1), .val (.int (Int32.ofNat x)), .val (.int (Int32.ofNat (P x)))] [(.int (1 : Int32))])) tz → Steps p.tables e below (T8.setTop (mkF m 22 #[.val (.ref a1), .val (.int (Int32.ofNat x)), .val (.int (Int32.ofNat (P x)))] [(.int (Int32.ofNat x)), (.int (Int32.ofNat (M ((P x)))))])) tz := by
        intro tz kz
        refine XS.icmpNo X8.here hx rfl (hb hby d5_22) rfl (teq hc22).2 ?_
        show Steps p.tables e below (T8.setTop (mkF m 25 #[.val (.ref a1), .val (.int (Int32.ofNat x)), .val (.int (Int32.ofNat (P x)))] [])) _
        refine XS.iconst X8.here hx rfl (hb hby d5_25) ?_
        show Steps p.tables e below (T8.setTop (mkF m 26 #[.val (.ref a1), .val (.int (Int32.ofNat x)), .val (.int (Int32.ofNat (P x)))] [(.int (1 : Int32))])) _
        refine XS.goto X8.here hx rfl (pc0 := 26) (pc' := 30) rfl (hb hby d5_26) (by decide) (by decide) ?_
        exact kz
      refine OG.step s12 ?_
      exact OG.retZ X8 hx hlk Bd.returns (hb hby d5_30) (nar_1) e8 ⟨(congrArg some (congrArg Value.int (bI_pos ⟨(own_lt (Nat.le_of_lt (I.2.1 x)) I.2.2.1).mp hc12, own_eq (I.1 _) hx4 hc22⟩).symm)), N0, rfl⟩ (by decide) (by decide)
    · have s13 : ∀ tz, Steps p.tables e below (T8.setTop (mkF m 30 #[.val (.ref a1), .val (.int (Int32.ofNat x)), .val (.int (Int32.ofNat (P x)))] [(.int (0 : Int32))])) tz → Steps p.tables e below (T8.setTop (mkF m 22 #[.val (.ref a1), .val (.int (Int32.ofNat x)), .val (.int (Int32.ofNat (P x)))] [(.int (Int32.ofNat x)), (.int (Int32.ofNat (M ((P x)))))])) tz := by
        intro tz kz
        refine XS.icmpYes X8.here hx rfl (pc0 := 22) (pc' := 29) rfl (hb hby d5_22) rfl (feq hc22).2 (by decide) (by decide) ?_
        show Steps p.tables e below (T8.setTop (mkF m 29 #[.val (.ref a1), .val (.int (Int32.ofNat x)), .val (.int (Int32.ofNat (P x)))] [])) _
        refine XS.iconst X8.here hx rfl (hb hby d5_29) ?_
        exact kz
      refine OG.step s13 ?_
      exact OG.retZ X8 hx hlk Bd.returns (hb hby d5_30) (nar_0) e8 ⟨(congrArg some (congrArg Value.int (bI_neg (fun z => hc22 (congrArg Int32.ofNat z.2))).symm)), N0, rfl⟩ (by decide) (by decide)
  · have s14 : ∀ tz, Steps p.tables e below (T6.setTop (mkF m 30 #[.val (.ref a1), .val (.int (Int32.ofNat x)), .val (.int (Int32.ofNat (P x)))] [(.int (0 : Int32))])) tz → Steps p.tables e below (T6.setTop (mkF m 12 #[.val (.ref a1), .val (.int (Int32.ofNat x)), .val (.int (Int32.ofNat (P x)))] [(.int (Int32.ofNat n)), (.int (Int32.ofNat (P x)))])) tz := by
      intro tz kz
      refine XS.icmpYes X6.here hx rfl (pc0 := 12) (pc' := 29) rfl (hb hby d5_12) rfl (flt hc12).2.1 (by decide) (by decide) ?_
      show Steps p.tables e below (T6.setTop (mkF m 29 #[.val (.ref a1), .val (.int (Int32.ofNat x)), .val (.int (Int32.ofNat (P x)))] [])) _
      refine XS.iconst X6.here hx rfl (hb hby d5_29) ?_
      exact kz
    refine OG.step s14 ?_
    exact OG.retZ X6 hx hlk Bd.returns (hb hby d5_30) (nar_0) e6 ⟨(congrArg some (congrArg Value.int (bI_neg (fun z => hc12 ((own_lt (Nat.le_of_lt (I.2.1 x)) I.2.2.1).mpr z.1))).symm)), N0, rfl⟩ (by decide) (by decide)
theorem d4_0 : decode prog_34_method_3_code 0 = .ok (.aload_n 0, 1) := by decide +kernel
theorem d4_1 : decode prog_34_method_3_code 1 = .ok (.iload_n 1, 1) := by decide +kernel
theorem d4_2 : decode prog_34_method_3_code 2 = .ok (.invokevirtual 20, 3) := by decide +kernel
theorem d4_5 : decode prog_34_method_3_code 5 = .ok (.ifCond .ne 30, 3) := by decide +kernel
theorem d4_8 : decode prog_34_method_3_code 8 = .ok (.aload_n 0, 1) := by decide +kernel
theorem d4_9 : decode prog_34_method_3_code 9 = .ok (.getfield 7, 3) := by decide +kernel
theorem d4_12 : decode prog_34_method_3_code 12 = .ok (.aload_n 0, 1) := by decide +kernel
theorem d4_13 : decode prog_34_method_3_code 13 = .ok (.getfield 16, 3) := by decide +kernel
theorem d4_16 : decode prog_34_method_3_code 16 = .ok (.iload_n 1, 1) := by decide +kernel
theorem d4_17 : decode prog_34_method_3_code 17 = .ok (.iastore, 1) := by decide +kernel
theorem d4_18 : decode prog_34_method_3_code 18 = .ok (.aload_n 0, 1) := by decide +kernel
theorem d4_19 : decode prog_34_method_3_code 19 = .ok (.getfield 13, 3) := by decide +kernel
theorem d4_22 : decode prog_34_method_3_code 22 = .ok (.iload_n 1, 1) := by decide +kernel
theorem d4_23 : decode prog_34_method_3_code 23 = .ok (.aload_n 0, 1) := by decide +kernel
theorem d4_24 : decode prog_34_method_3_code 24 = .ok (.dup, 1) := by decide +kernel
theorem d4_25 : decode prog_34_method_3_code 25 = .ok (.getfield 16, 3) := by decide +kernel
theorem d4_28 : decode prog_34_method_3_code 28 = .ok (.dup_x1, 1) := by decide +kernel
theorem d4_29 : decode prog_34_method_3_code 29 = .ok (.iconst 1, 1) := by decide +kernel
theorem d4_30 : decode prog_34_method_3_code 30 = .ok (.iadd, 1) := by decide +kernel
theorem d4_31 : decode prog_34_method_3_code 31 = .ok (.putfield 16, 3) := by decide +kernel
theorem d4_34 : decode prog_34_method_3_code 34 = .ok (.iastore, 1) := by decide +kernel
theorem d4_35 : decode prog_34_method_3_code 35 = .ok (.return_, 1) := by decide +kernel
theorem ef_4 (m : MethodId) (x0 : Addr) (x1 : Int32) : entryFrame m #[(.ref x0), (.int x1)] 2 = mkF m 0 #[.val (.ref x0), .val (.int x1)] [] := by first | (simp [entryFrame, mkF, argsToLocals, Value.category]; done) | rfl
def Q4 (Z : State) (a1 : Addr) (x : Nat) (am : Addr) (ap : Addr) (km : ClassId) (kp : ClassId) (M : Nat → Nat) (P : Nat → Nat) (n : Nat) (h0 : Heap) (n0 : Nat) (v : Option Value) (h : Heap) (L : List Loc) : Prop := ∃ (M2 : Nat → Nat) (P2 : Nat → Nat) (n2 : Nat), (v = none) ∧ (Fr n0 L) ∧ (Keep h0 h [a1, am, ap]) ∧ (Exa Z h a1 "com/example/tidegraph/tidegraph/amd64/SparseSet") ∧ (Fld Z h a1 "com/example/tidegraph/tidegraph/amd64/SparseSet" "members" "[I" (.ref am)) ∧ (Fld Z h a1 "com/example/tidegraph/tidegraph/amd64/SparseSet" "places" "[I" (.ref ap)) ∧ (Fld Z h a1 "com/example/tidegraph/tidegraph/amd64/SparseSet" "size" "I" (.int (Int32.ofNat n2))) ∧ (Arv Z h am km .int (4 : Int32) (own_vs M2) (.int (0 : Int32))) ∧ (Arv Z h ap kp .int (4 : Int32) (own_vs P2) (.int (0 : Int32))) ∧ (own_Inv M2 P2 n2) ∧ (∀ y, y < 4 → ((P2 y < n2 ∧ M2 (P2 y) = y) ↔ ((P y < n ∧ M (P y) = y) ∨ y = x)))
theorem pd__I_Z : parseMethodDescriptor "(I)Z" = some ⟨[.int], some .boolean⟩ := by decide +kernel
abbrev rom_4 : Room := { frames := 1, cells := 0, slots := 0, locals := 14 }
set_option maxRecDepth 65536 in
set_option maxHeartbeats 40000000 in
theorem rm4 (l : Launch) (Z : State) (a0 : Array Value) (hw : ∀ d ∈ tables_1, d.before a0 Z = true) (ws : List Jvm.Cond) (a1 : Addr) (x : Nat) (am : Addr) (ap : Addr) (km : ClassId) (kp : ClassId) (M : Nat → Nat) (P : Nat → Nat) (n : Nat) (h0 : Heap) (n0 : Nat) (Z0 : n0 ≤ h0.size) (F0_a1 : Exa Z h0 a1 "com/example/tidegraph/tidegraph/amd64/SparseSet") (F1_a1_members : Fld Z h0 a1 "com/example/tidegraph/tidegraph/amd64/SparseSet" "members" "[I" (.ref am)) (F2_a1_places : Fld Z h0 a1 "com/example/tidegraph/tidegraph/amd64/SparseSet" "places" "[I" (.ref ap)) (F3_a1_size : Fld Z h0 a1 "com/example/tidegraph/tidegraph/amd64/SparseSet" "size" "I" (.int (Int32.ofNat n))) (F4_am : Arv Z h0 am km .int (4 : Int32) (own_vs M) (.int (0 : Int32))) (F5_ap : Arv Z h0 ap kp .int (4 : Int32) (own_vs P) (.int (0 : Int32))) (ne_a1_am : a1 ≠ am) (ne_a1_ap : a1 ≠ ap) (ne_am_ap : am ≠ ap) (g_a1 : n0 ≤ a1) (g_am : n0 ≤ am) (g_ap : n0 ≤ ap) (I : own_Inv M P n) (hx4 : x < 4) :
    MetFree l (⟨"com/example/tidegraph/tidegraph/amd64/SparseSet", "add", "(I)V"⟩ : MethodName) (head1 (Jvm.Cond.code (⟨"com/example/tidegraph/tidegraph/amd64/SparseSet", "add", "(I)V"⟩ : MethodName) prog_34_method_3_code 2 none :: ws) rom_4) (fun a U => a = #[(.ref a1), (.int (Int32.ofNat x))] ∧ Z.Warmed39 U.vm ∧ U.heap = h0) (fun _ _ _ _ _ => True) (fun _ U o U' => ∃ v L, o = .returned v ∧ Q4 Z a1 x am ap km kp M P n h0 n0 v U'.heap L ∧ FrameEnd U o U' L rom_4.cells rom_4.slots) := by
  refine MetFree.of_bodySF (plainFor_of_name pn_com_example_tidegraph_tidegraph_amd64_SparseSet) hisR ?_
  intro p e s m args below meth c s₁ Bd hml0 hP hK
  obtain ⟨rfl, hZ, hh⟩ := hP
  have hx := Bd.exec
  have hby := Bd.bytes
  have hlk := Bd.notSynchronized
  have hml : c.maxLocals = 2 := hml0
  have hown : s.vm.findClass "com/example/tidegraph/tidegraph/amd64/SparseSet" = some m.cls := findClass_of_methodNamed Bd.named
  have hnm := (name_of_methodNamed Bd.named Bd.method).1
  have X0 : Stand p l e rom_4 s m #[(.ref a1), (.int (Int32.ofNat x))] below meth c s₁ [] 0 0 := Stand.of_body Bd
  have e0 : s₁.heap = h0 := by rw [← hh, Bd.state]; rfl
  have N0 := Fr.nil n0
  have K0 : Keep h0 h0 [a1, am, ap] := Keep.refl _ _
  refine (?_ : OG p e below s (Q4 Z a1 x am ap km kp M P n h0 n0) rom_4.cells rom_4.slots _)
  rw [ef_4]
  have s1 : ∀ tz, Steps p.tables e below (s₁.setTop (mkF m 2 #[.val (.ref a1), .val (.int (Int32.ofNat x))] [(.int (Int32.ofNat x)), (.ref a1)])) tz → Steps p.tables e below (s₁.setTop (mkF m 0 #[.val (.ref a1), .val (.int (Int32.ofNat x))] [])) tz := by
    intro tz kz
    refine XS.aloadN X0.here hx rfl (hb hby d4_0) rfl rfl ?_
    show Steps p.tables e below (s₁.setTop (mkF m 1 #[.val (.ref a1), .val (.int (Int32.ofNat x))] [(.ref a1)])) _
    refine XS.iloadN X0.here hx rfl (hb hby d4_1) rfl ?_
    exact kz
  refine OG.step s1 ?_
  obtain ⟨cq2, kq2, q2a, q2b, q2c⟩ := isOf hZ e0 F0_a1
  obtain ⟨_, _, ⟨T2, L2, k2, n2⟩, -, X2, ⟨Lc2, hQ2, l2, y2, z2⟩, st2⟩ := X0.virtualBack hx (y := (⟨"com/example/tidegraph/tidegraph/amd64/SparseSet", "contains", "(I)Z"⟩ : MethodName)) (z := (⟨"com/example/tidegraph/tidegraph/amd64/SparseSet", "contains", "(I)Z"⟩ : MethodName)) hown (mvT hZ (hw _ (List.mem_of_getElem? (i := 23) rfl))) (mvT hZ (hw _ (List.mem_of_getElem? (i := 24) rfl))) (notFace_of_selects (args := #[]) (mvT hZ (hw _ (List.mem_of_getElem? (i := 26) rfl)))) (mvT hZ (hw _ (List.mem_of_getElem? (i := 26) rfl))) (mvT hZ (hw _ (List.mem_of_getElem? (i := 25) rfl))) (by decide) (backOf (W := 0) (rm5 l Z a0 hw [] a1 x am ap km kp M P n h0 n0 (Nat.le_trans Z0 K0.1) F0_a1 F1_a1_members F2_a1_places F3_a1_size F4_am F5_ap (by assumption) (by assumption)) hZ (hw _ (List.mem_of_getElem? (i := 27) rfl)) (hw _ (List.mem_of_getElem? (i := 2) rfl)) (by decide) (by decide)) q2a q2c (g := (mkF m 2 #[.val (.ref a1), .val (.int (Int32.ofNat x))] [(.int (Int32.ofNat x)), (.ref a1)])) rfl (by rw [hml]; rfl) (Steps.refl _) (argsL := [(.int (Int32.ofNat x))]) (rest := []) (lenOf pd__I_Z rfl) rfl (by show 2 * 0 + _ ≤ _; exact Nat.le_of_eq rfl) (hb hby d4_2) (fun _ _ => ⟨rfl, e0, (by decide : 0 + 0 ≤ _), (by decide : 0 + 0 ≤ _)⟩)
  dsimp only [Pt.U, Pt.locs, Pt.cells, Pt.slots] at X2 l2 y2 z2 st2 hQ2
  subst l2 y2 z2
  obtain ⟨rfl, N2q, e2⟩ := hQ2
  have N2 := Fr.app N0 N2q
  refine OG.step (fun tz kz => st2.trans kz) ?_
  show OG _ _ _ _ _ _ _ (T2.setTop (mkF m 5 #[.val (.ref a1), .val (.int (Int32.ofNat x))] [(.int (bI (P x < n ∧ M (P x) = x)))]))
  by_cases hc5 : P x < n ∧ M (P x) = x
  · have s3 : ∀ tz, Steps p.tables e below (T2.setTop (mkF m 35 #[.val (.ref a1), .val (.int (Int32.ofNat x))] [])) tz → Steps p.tables e below (T2.setTop (mkF m 5 #[.val (.ref a1), .val (.int (Int32.ofNat x))] [(.int (bI (P x < n ∧ M (P x) = x)))])) tz := by
      intro tz kz
      refine XS.ifYes X2.here hx rfl (pc0 := 5) (pc' := 35) rfl (hb hby d4_5) rfl ((if0 _ _).trans (feq (bI_ne0 hc5)).2) (by decide) (by decide) ?_
      exact kz
    refine OG.step s3 ?_
    exact OG.retV X2 hx hlk Bd.returns (hb hby d4_35) e2 ⟨M, P, n, rfl, N2, K0, F0_a1, F1_a1_members, F2_a1_places, F3_a1_size, F4_am, F5_ap, I, (own_add0 hc5)⟩ (by decide) (by decide)
  · have s4 : ∀ tz, Steps p.tables e below (T2.setTop (mkF m 9 #[.val (.ref a1), .val (.int (Int32.ofNat x))] [(.ref a1)])) tz → Steps p.tables e below (T2.setTop (mkF m 5 #[.val (.ref a1), .val (.int (Int32.ofNat x))] [(.int (bI (P x < n ∧ M (P x) = x)))])) tz := by
      intro tz kz
      refine XS.ifNo X2.here hx rfl (hb hby d4_5) rfl ((if0 _ _).trans (teq (bI_0 hc5)).2) ?_
      show Steps p.tables e below (T2.setTop (mkF m 8 #[.val (.ref a1), .val (.int (Int32.ofNat x))] [])) _
      refine XS.aloadN X2.here hx rfl (hb hby d4_8) rfl rfl ?_
      exact kz
    refine OG.step s4 ?_
    obtain ⟨T5, X5, e5, st5⟩ := getF X2 hx hZ hown (host := "") (Or.inl (hw _ (List.mem_of_getElem? (i := 10) rfl))) Via.refl e2 F1_a1_members (g := (mkF m 9 #[.val (.ref a1), .val (.int (Int32.ofNat x))] [(.ref a1)])) rfl rfl (hb hby d4_9)
    refine OG.step st5 ?_
    show OG _ _ _ _ _ _ _ (T5.setTop (mkF m 12 #[.val (.ref a1), .val (.int (Int32.ofNat x))] [(.ref am)]))
    have s6 : ∀ tz, Steps p.tables e below (T5.setTop (mkF m 13 #[.val (.ref a1), .val (.int (Int32.ofNat x))] [(.ref a1), (.ref am)])) tz → Steps p.tables e below (T5.setTop (mkF m 12 #[.val (.ref a1), .val (.int (Int32.ofNat x))] [(.ref am)])) tz := by
      intro tz kz
      refine XS.aloadN X5.here hx rfl (hb hby d4_12) rfl rfl ?_
      exact kz
    refine OG.step s6 ?_
    obtain ⟨T7, X7, e7, st7⟩ := getF X5 hx hZ hown (host := "") (Or.inl (hw _ (List.mem_of_getElem? (i := 28) rfl))) Via.refl e5 F3_a1_size (g := (mkF m 13 #[.val (.ref a1), .val (.int (Int32.ofNat x))] [(.ref a1), (.ref am)])) rfl rfl (hb hby d4_13)
    refine OG.step st7 ?_
    show OG _ _ _ _ _ _ _ (T7.setTop (mkF m 16 #[.val (.ref a1), .val (.int (Int32.ofNat x))] [(.int (Int32.ofNat n)), (.ref am)]))
    have s8 : ∀ tz, Steps p.tables e below (T7.setTop (mkF m 17 #[.val (.ref a1), .val (.int (Int32.ofNat x))] [(.int (Int32.ofNat x)), (.int (Int32.ofNat n)), (.ref am)])) tz → Steps p.tables e below (T7.setTop (mkF m 16 #[.val (.ref a1), .val (.int (Int32.ofNat x))] [(.int (Int32.ofNat n)), (.ref am)])) tz := by
      intro tz kz
      refine XS.iloadN X7.here hx rfl (hb hby d4_16) rfl ?_
      exact kz
    refine OG.step s8 ?_
    have av9 := F4_am
    obtain ⟨cl9, Ar9, q9, S9, Nn9, H9, G9⟩ := av9
    have hin9 : ¬ ((Int32.ofNat n) < 0 ∨ cl9.slots.size ≤ ((Int32.ofNat n)).toNatClampNeg) := inb_of S9 ⟨(own_lo (own_room4 I hx4 hc5)), (own_hi (own_room4 I hx4 hc5))⟩
    obtain ⟨T10, h10, X10, e10, W10, st10⟩ := stI X7 hx hZ e7 Ar9 (j := (Int32.ofNat n)) hin9 (g := (mkF m 17 #[.val (.ref a1), .val (.int (Int32.ofNat x))] [(.int (Int32.ofNat x)), (.int (Int32.ofNat n)), (.ref am)])) rfl rfl (hb hby d4_17)
    refine OG.step st10 ?_
    have Va10 := Arv.set Ar9 q9 S9 Nn9 H9 G9 rfl W10 (n) (own_cl (own_room4 I hx4 hc5)) (own_len M (own_room4 I hx4 hc5))
    have V10 : Arv Z h10 am km .int (4 : Int32) (own_vs (own_up M n x)) (.int (0 : Int32)) := by rw [own_set M (own_room4 I hx4 hc5) x] at Va10; exact Va10
    have f11 := F0_a1.wr W10
    have f12 := F1_a1_members.other W10 (Or.inl ne_a1_am)
    have f13 := F2_a1_places.other W10 (Or.inl ne_a1_am)
    have f14 := F3_a1_size.other W10 (Or.inl ne_a1_am)
    have f15 := F5_ap.other W10 (Ne.symm ne_am_ap)
    have K10 := K0.wr W10 (Or.inl (List.mem_of_getElem? (i := 1) rfl))
    have N10 := Fr.snoc X10 N2 g_am
    show OG _ _ _ _ _ _ _ (T10.setTop (mkF m 18 #[.val (.ref a1), .val (.int (Int32.ofNat x))] []))
    have s16 : ∀ tz, Steps p.tables e below (T10.setTop (mkF m 19 #[.val (.ref a1), .val (.int (Int32.ofNat x))] [(.ref a1)])) tz → Steps p.tables e below (T10.setTop (mkF m 18 #[.val (.ref a1), .val (.int (Int32.ofNat x))] [])) tz := by
      intro tz kz
      refine XS.aloadN X10.here hx rfl (hb hby d4_18) rfl rfl ?_
      exact kz
    refine OG.step s16 ?_
    obtain ⟨T17, X17, e17, st17⟩ := getF X10 hx hZ hown (host := "") (Or.inl (hw _ (List.mem_of_getElem? (i := 12) rfl))) Via.refl e10 f13 (g := (mkF m 19 #[.val (.ref a1), .val (.int (Int32.ofNat x))] [(.ref a1)])) rfl rfl (hb hby d4_19)
    refine OG.step st17 ?_
    show OG _ _ _ _ _ _ _ (T17.setTop (mkF m 22 #[.val (.ref a1), .val (.int (Int32.ofNat x))] [(.ref ap)]))
    have s18 : ∀ tz, Steps p.tables e below (T17.setTop (mkF m 25 #[.val (.ref a1), .val (.int (Int32.ofNat x))] [(.ref a1), (.ref a1), (.int (Int32.ofNat x)), (.ref ap)])) tz → Steps p.tables e below (T17.setTop (mkF m 22 #[.val (.ref a1), .val (.int (Int32.ofNat x))] [(.ref ap)])) tz := by
      intro tz kz
      refine XS.iloadN X17.here hx rfl (hb hby d4_22) rfl ?_
      show Steps p.tables e below (T17.setTop (mkF m 23 #[.val (.ref a1), .val (.int (Int32.ofNat x))] [(.int (Int32.ofNat x)), (.ref ap)])) _
      refine XS.aloadN X17.here hx rfl (hb hby d4_23) rfl rfl ?_
      show Steps p.tables e below (T17.setTop (mkF m 24 #[.val (.ref a1), .val (.int (Int32.ofNat x))] [(.ref a1), (.int (Int32.ofNat x)), (.ref ap)])) _
      refine XS.dup X17.here hx rfl (hb hby d4_24) rfl rfl ?_
      exact kz
    refine OG.step s18 ?_
    obtain ⟨T19, X19, e19, st19⟩ := getF X17 hx hZ hown (host := "") (Or.inl (hw _ (List.mem_of_getElem? (i := 28) rfl))) Via.refl e17 f14 (g := (mkF m 25 #[.val (.ref a1), .val (.int (Int32.ofNat x))] [(.ref a1), (.ref a1), (.int (Int32.ofNat x)), (.ref ap)])) rfl rfl (hb hby d4_25)
    refine OG.step st19 ?_
    show OG _ _ _ _ _ _ _ (T19.setTop (mkF m 28 #[.val (.ref a1), .val (.int (Int32.ofNat x))] [(.int (Int32.ofNat n)), (.ref a1), (.int (Int32.ofNat x)), (.ref ap)]))
    have s20 : ∀ tz, Steps p.tables e below (T19.setTop (mkF m 31 #[.val (.ref a1), .val (.int (Int32.ofNat x))] [(.int ((Int32.ofNat n) + (1 : Int32))), (.ref a1), (.int (Int32.ofNat n)), (.int (Int32.ofNat x)), (.ref ap)])) tz → Steps p.tables e below (T19.setTop (mkF m 28 #[.val (.ref a1), .val (.int (Int32.ofNat x))] [(.int (Int32.ofNat n)), (.ref a1), (.int (Int32.ofNat x)), (.ref ap)])) tz := by
      intro tz kz
      refine XS.dupX1 X19.here hx rfl (hb hby d4_28) rfl rfl rfl ?_
      show Steps p.tables e below (T19.setTop (mkF m 29 #[.val (.ref a1), .val (.int (Int32.ofNat x))] [(.int (Int32.ofNat n)), (.ref a1), (.int (Int32.ofNat n)), (.int (Int32.ofNat x)), (.ref ap)])) _
      refine XS.iconst X19.here hx rfl (hb hby d4_29) ?_
      show Steps p.tables e below (T19.setTop (mkF m 30 #[.val (.ref a1), .val (.int (Int32.ofNat x))] [(.int (1 : Int32)), (.int (Int32.ofNat n)), (.ref a1), (.int (Int32.ofNat n)), (.int (Int32.ofNat x)), (.ref ap)])) _
      refine XS.iadd X19.here hx rfl (hb hby d4_30) rfl ?_
      exact kz
    refine OG.step s20 ?_
    rw [own_inc]
    obtain ⟨T21, h21, X21, e21, W21, st21⟩ := putF X19 hx hZ hown (host := "") (Or.inl (hw _ (List.mem_of_getElem? (i := 28) rfl))) Via.refl e19 f14 f11 (Or.inl (hw _ (List.mem_of_getElem? (i := 29) rfl))) (hw _ (List.mem_of_getElem? (i := 1) rfl)) (ty := .int) (by decide) rfl rfl (g := (mkF m 31 #[.val (.ref a1), .val (.int (Int32.ofNat x))] [(.int (Int32.ofNat (n + 1))), (.ref a1), (.int (Int32.ofNat n)), (.int (Int32.ofNat x)), (.ref ap)])) rfl rfl (hb hby d4_31)
    refine OG.step st21 ?_
    have fw21 := f14.same W21
    have f22 := f11.wr W21
    have f23 := f12.other W21 (Or.inr (slot_ne (Or.inr (hw _ (List.mem_of_getElem? (i := 11) rfl))) (Or.inl (hw _ (List.mem_of_getElem? (i := 29) rfl))) (by decide) (t := (.array .int)) (t' := .int) (by decide) (by decide)))
    have f24 := f13.other W21 (Or.inr (slot_ne (Or.inr (hw _ (List.mem_of_getElem? (i := 13) rfl))) (Or.inl (hw _ (List.mem_of_getElem? (i := 29) rfl))) (by decide) (t := (.array .int)) (t' := .int) (by decide) (by decide)))
    have f25 := f15.other W21 (Ne.symm ne_a1_ap)
    have f26 := V10.other W21 (Ne.symm ne_a1_am)
    have K21 := K10.wr W21 (Or.inl (List.mem_of_getElem? (i := 0) rfl))
    have N21 := Fr.snoc X21 N10 g_a1
    show OG _ _ _ _ _ _ _ (T21.setTop (mkF m 34 #[.val (.ref a1), .val (.int (Int32.ofNat x))] [(.int (Int32.ofNat n)), (.int (Int32.ofNat x)), (.ref ap)]))
    have av27 := f25
    obtain ⟨cl27, Ar27, q27, S27, Nn27, H27, G27⟩ := av27
    have hin27 : ¬ ((Int32.ofNat x) < 0 ∨ cl27.slots.size ≤ ((Int32.ofNat x)).toNatClampNeg) := inb_of S27 ⟨(own_lo hx4), (own_hi hx4)⟩
    obtain ⟨T28, h28, X28, e28, W28, st28⟩ := stI X21 hx hZ e21 Ar27 (j := (Int32.ofNat x)) hin27 (g := (mkF m 34 #[.val (.ref a1), .val (.int (Int32.ofNat x))] [(.int (Int32.ofNat n)), (.int (Int32.ofNat x)), (.ref ap)])) rfl rfl (hb hby d4_34)
    refine OG.step st28 ?_
    have Va28 := Arv.set Ar27 q27 S27 Nn27 H27 G27 rfl W28 (x) (own_cl hx4) (own_len P hx4)
    have V28 : Arv Z h28 ap kp .int (4 : Int32) (own_vs (own_up P x n)) (.int (0 : Int32)) := by rw [own_set P hx4 n] at Va28; exact Va28
    have f29 := f22.wr W28
    have f30 := f23.other W28 (Or.inl ne_a1_ap)
    have f31 := f24.other W28 (Or.inl ne_a1_ap)
    have f32 := f26.other W28 ne_am_ap
    have f33 := fw21.other W28 (Or.inl ne_a1_ap)
    have K28 := K21.wr W28 (Or.inl (List.mem_of_getElem? (i := 2) rfl))
    have N28 := Fr.snoc X28 N21 g_ap
    show OG _ _ _ _ _ _ _ (T28.setTop (mkF m 35 #[.val (.ref a1), .val (.int (Int32.ofNat x))] []))
    exact OG.retV X28 hx hlk Bd.returns (hb hby d4_35) e28 ⟨(own_up M n x), (own_up P x n), (n + 1), rfl, N28, K28, f29, f30, f31, f33, f32, V28, (own_addI I hx4 hc5), (own_addC I hx4 hc5)⟩ (by decide) (by decide)
theorem d6_0 : decode prog_34_method_4_code 0 = .ok (.aload_n 0, 1) := by decide +kernel
theorem d6_1 : decode prog_34_method_4_code 1 = .ok (.iload_n 1, 1) := by decide +kernel
theorem d6_2 : decode prog_34_method_4_code 2 = .ok (.invokevirtual 20, 3) := by decide +kernel
theorem d6_5 : decode prog_34_method_4_code 5 = .ok (.ifCond .eq 44, 3) := by decide +kernel
theorem d6_8 : decode prog_34_method_4_code 8 = .ok (.aload_n 0, 1) := by decide +kernel
theorem d6_9 : decode prog_34_method_4_code 9 = .ok (.getfield 7, 3) := by decide +kernel
theorem d6_12 : decode prog_34_method_4_code 12 = .ok (.aload_n 0, 1) := by decide +kernel
theorem d6_13 : decode prog_34_method_4_code 13 = .ok (.dup, 1) := by decide +kernel
theorem d6_14 : decode prog_34_method_4_code 14 = .ok (.getfield 16, 3) := by decide +kernel
theorem d6_17 : decode prog_34_method_4_code 17 = .ok (.iconst 1, 1) := by decide +kernel
theorem d6_18 : decode prog_34_method_4_code 18 = .ok (.isub, 1) := by decide +kernel
theorem d6_19 : decode prog_34_method_4_code 19 = .ok (.dup_x1, 1) := by decide +kernel
theorem d6_20 : decode prog_34_method_4_code 20 = .ok (.putfield 16, 3) := by decide +kernel
theorem d6_23 : decode prog_34_method_4_code 23 = .ok (.iaload, 1) := by decide +kernel
theorem d6_24 : decode prog_34_method_4_code 24 = .ok (.istore_n 2, 1) := by decide +kernel
theorem d6_25 : decode prog_34_method_4_code 25 = .ok (.aload_n 0, 1) := by decide +kernel
theorem d6_26 : decode prog_34_method_4_code 26 = .ok (.getfield 7, 3) := by decide +kernel
theorem d6_29 : decode prog_34_method_4_code 29 = .ok (.aload_n 0, 1) := by decide +kernel
theorem d6_30 : decode prog_34_method_4_code 30 = .ok (.getfield 13, 3) := by decide +kernel
theorem d6_33 : decode prog_34_method_4_code 33 = .ok (.iload_n 1, 1) := by decide +kernel
theorem d6_34 : decode prog_34_method_4_code 34 = .ok (.iaload, 1) := by decide +kernel
theorem d6_35 : decode prog_34_method_4_code 35 = .ok (.iload_n 2, 1) := by decide +kernel
theorem d6_36 : decode prog_34_method_4_code 36 = .ok (.iastore, 1) := by decide +kernel
theorem d6_37 : decode prog_34_method_4_code 37 = .ok (.aload_n 0, 1) := by decide +kernel
theorem d6_38 : decode prog_34_method_4_code 38 = .ok (.getfield 13, 3) := by decide +kernel
theorem d6_41 : decode prog_34_method_4_code 41 = .ok (.iload_n 2, 1) := by decide +kernel
theorem d6_42 : decode prog_34_method_4_code 42 = .ok (.aload_n 0, 1) := by decide +kernel
theorem d6_43 : decode prog_34_method_4_code 43 = .ok (.getfield 13, 3) := by decide +kernel
theorem d6_46 : decode prog_34_method_4_code 46 = .ok (.iload_n 1, 1) := by decide +kernel
theorem d6_47 : decode prog_34_method_4_code 47 = .ok (.iaload, 1) := by decide +kernel
theorem d6_48 : decode prog_34_method_4_code 48 = .ok (.iastore, 1) := by decide +kernel
theorem d6_49 : decode prog_34_method_4_code 49 = .ok (.return_, 1) := by decide +kernel
theorem ef_6 (m : MethodId) (x0 : Addr) (x1 : Int32) : entryFrame m #[(.ref x0), (.int x1)] 3 = mkF m 0 #[.val (.ref x0), .val (.int x1), .unset] [] := by first | (simp [entryFrame, mkF, argsToLocals, Value.category]; done) | rfl
def Q6 (Z : State) (a1 : Addr) (x : Nat) (am : Addr) (ap : Addr) (km : ClassId) (kp : ClassId) (M : Nat → Nat) (P : Nat → Nat) (n : Nat) (h0 : Heap) (n0 : Nat) (v : Option Value) (h : Heap) (L : List Loc) : Prop := ∃ (M2 : Nat → Nat) (P2 : Nat → Nat) (n2 : Nat), (v = none) ∧ (Fr n0 L) ∧ (Keep h0 h [a1, am, ap]) ∧ (Exa Z h a1 "com/example/tidegraph/tidegraph/amd64/SparseSet") ∧ (Fld Z h a1 "com/example/tidegraph/tidegraph/amd64/SparseSet" "members" "[I" (.ref am)) ∧ (Fld Z h a1 "com/example/tidegraph/tidegraph/amd64/SparseSet" "places" "[I" (.ref ap)) ∧ (Fld Z h a1 "com/example/tidegraph/tidegraph/amd64/SparseSet" "size" "I" (.int (Int32.ofNat n2))) ∧ (Arv Z h am km .int (4 : Int32) (own_vs M2) (.int (0 : Int32))) ∧ (Arv Z h ap kp .int (4 : Int32) (own_vs P2) (.int (0 : Int32))) ∧ (own_Inv M2 P2 n2) ∧ (∀ y, y < 4 → ((P2 y < n2 ∧ M2 (P2 y) = y) ↔ ((P y < n ∧ M (P y) = y) ∧ y ≠ x)))
abbrev rom_6 : Room := { frames := 1, cells := 0, slots := 0, locals := 14 }
set_option maxRecDepth 65536 in
set_option maxHeartbeats 40000000 in
theorem rm6 (l : Launch) (Z : State) (a0 : Array Value) (hw : ∀ d ∈ tables_1, d.before a0 Z = true) (ws : List Jvm.Cond) (a1 : Addr) (x : Nat) (am : Addr) (ap : Addr) (km : ClassId) (kp : ClassId) (M : Nat → Nat) (P : Nat → Nat) (n : Nat) (h0 : Heap) (n0 : Nat) (Z0 : n0 ≤ h0.size) (F0_a1 : Exa Z h0 a1 "com/example/tidegraph/tidegraph/amd64/SparseSet") (F1_a1_members : Fld Z h0 a1 "com/example/tidegraph/tidegraph/amd64/SparseSet" "members" "[I" (.ref am)) (F2_a1_places : Fld Z h0 a1 "com/example/tidegraph/tidegraph/amd64/SparseSet" "places" "[I" (.ref ap)) (F3_a1_size : Fld Z h0 a1 "com/example/tidegraph/tidegraph/amd64/SparseSet" "size" "I" (.int (Int32.ofNat n))) (F4_am : Arv Z h0 am km .int (4 : Int32) (own_vs M) (.int (0 : Int32))) (F5_ap : Arv Z h0 ap kp .int (4 : Int32) (own_vs P) (.int (0 : Int32))) (ne_a1_am : a1 ≠ am) (ne_a1_ap : a1 ≠ ap) (ne_am_ap : am ≠ ap) (g_a1 : n0 ≤ a1) (g_am : n0 ≤ am) (g_ap : n0 ≤ ap) (I : own_Inv M P n) (hx4 : x < 4) :
    MetFree l (⟨"com/example/tidegraph/tidegraph/amd64/SparseSet", "remove", "(I)V"⟩ : MethodName) (head1 (Jvm.Cond.code (⟨"com/example/tidegraph/tidegraph/amd64/SparseSet", "remove", "(I)V"⟩ : MethodName) prog_34_method_4_code 3 none :: ws) rom_6) (fun a U => a = #[(.ref a1), (.int (Int32.ofNat x))] ∧ Z.Warmed39 U.vm ∧ U.heap = h0) (fun _ _ _ _ _ => True) (fun _ U o U' => ∃ v L, o = .returned v ∧ Q6 Z a1 x am ap km kp M P n h0 n0 v U'.heap L ∧ FrameEnd U o U' L rom_6.cells rom_6.slots) := by
  refine MetFree.of_bodySF (plainFor_of_name pn_com_example_tidegraph_tidegraph_amd64_SparseSet) hisR ?_
  intro p e s m args below meth c s₁ Bd hml0 hP hK
  obtain ⟨rfl, hZ, hh⟩ := hP
  have hx := Bd.exec
  have hby := Bd.bytes
  have hlk := Bd.notSynchronized
  have hml : c.maxLocals = 3 := hml0
  have hown : s.vm.findClass "com/example/tidegraph/tidegraph/amd64/SparseSet" = some m.cls := findClass_of_methodNamed Bd.named
  have hnm := (name_of_methodNamed Bd.named Bd.method).1
  have X0 : Stand p l e rom_6 s m #[(.ref a1), (.int (Int32.ofNat x))] below meth c s₁ [] 0 0 := Stand.of_body Bd
  have e0 : s₁.heap = h0 := by rw [← hh, Bd.state]; rfl
  have N0 := Fr.nil n0
  have K0 : Keep h0 h0 [a1, am, ap] := Keep.refl _ _
  refine (?_ : OG p e below s (Q6 Z a1 x am ap km kp M P n h0 n0) rom_6.cells rom_6.slots _)
  rw [ef_6]
  have s1 : ∀ tz, Steps p.tables e below (s₁.setTop (mkF m 2 #[.val (.ref a1), .val (.int (Int32.ofNat x)), .unset] [(.int (Int32.ofNat x)), (.ref a1)])) tz → Steps p.tables e below (s₁.setTop (mkF m 0 #[.val (.ref a1), .val (.int (Int32.ofNat x)), .unset] [])) tz := by
    intro tz kz
    refine XS.aloadN X0.here hx rfl (hb hby d6_0) rfl rfl ?_
    show Steps p.tables e below (s₁.setTop (mkF m 1 #[.val (.ref a1), .val (.int (Int32.ofNat x)), .unset] [(.ref a1)])) _
    refine XS.iloadN X0.here hx rfl (hb hby d6_1) rfl ?_
    exact kz
  refine OG.step s1 ?_
  obtain ⟨cq2, kq2, q2a, q2b, q2c⟩ := isOf hZ e0 F0_a1
  obtain ⟨_, _, ⟨T2, L2, k2, n2⟩, -, X2, ⟨Lc2, hQ2, l2, y2, z2⟩, st2⟩ := X0.virtualBack hx (y := (⟨"com/example/tidegraph/tidegraph/amd64/SparseSet", "contains", "(I)Z"⟩ : MethodName)) (z := (⟨"com/example/tidegraph/tidegraph/amd64/SparseSet", "contains", "(I)Z"⟩ : MethodName)) hown (mvT hZ (hw _ (List.mem_of_getElem? (i := 23) rfl))) (mvT hZ (hw _ (List.mem_of_getElem? (i := 24) rfl))) (notFace_of_selects (args := #[]) (mvT hZ (hw _ (List.mem_of_getElem? (i := 26) rfl)))) (mvT hZ (hw _ (List.mem_of_getElem? (i := 26) rfl))) (mvT hZ (hw _ (List.mem_of_getElem? (i := 25) rfl))) (by decide) (backOf (W := 0) (rm5 l Z a0 hw [] a1 x am ap km kp M P n h0 n0 (Nat.le_trans Z0 K0.1) F0_a1 F1_a1_members F2_a1_places F3_a1_size F4_am F5_ap (by assumption) (by assumption)) hZ (hw _ (List.mem_of_getElem? (i := 27) rfl)) (hw _ (List.mem_of_getElem? (i := 2) rfl)) (by decide) (by decide)) q2a q2c (g := (mkF m 2 #[.val (.ref a1), .val (.int (Int32.ofNat x)), .unset] [(.int (Int32.ofNat x)), (.ref a1)])) rfl (by rw [hml]; rfl) (Steps.refl _) (argsL := [(.int (Int32.ofNat x))]) (rest := []) (lenOf pd__I_Z rfl) rfl (by show 2 * 0 + _ ≤ _; exact Nat.le_of_eq rfl) (hb hby d6_2) (fun _ _ => ⟨rfl, e0, (by decide : 0 + 0 ≤ _), (by decide : 0 + 0 ≤ _)⟩)
  dsimp only [Pt.U, Pt.locs, Pt.cells, Pt.slots] at X2 l2 y2 z2 st2 hQ2
  subst l2 y2 z2
  obtain ⟨rfl, N2q, e2⟩ := hQ2
  have N2 := Fr.app N0 N2q
  refine OG.step (fun tz kz => st2.trans kz) ?_
  show OG _ _ _ _ _ _ _ (T2.setTop (mkF m 5 #[.val (.ref a1), .val (.int (Int32.ofNat x)), .unset] [(.int (bI (P x < n ∧ M (P x) = x)))]))
  by_cases hc5 : P x < n ∧ M (P x) = x
  · have s3 : ∀ tz, Steps p.tables e below (T2.setTop (mkF m 9 #[.val (.ref a1), .val (.int (Int32.ofNat x)), .unset] [(.ref a1)])) tz → Steps p.tables e below (T2.setTop (mkF m 5 #[.val (.ref a1), .val (.int (Int32.ofNat x)), .unset] [(.int (bI (P x < n ∧ M (P x) = x)))])) tz := by
      intro tz kz
      refine XS.ifNo X2.here hx rfl (hb hby d6_5) rfl ((if0 _ _).trans (feq (bI_ne0 hc5)).1) ?_
      show Steps p.tables e below (T2.setTop (mkF m 8 #[.val (.ref a1), .val (.int (Int32.ofNat x)), .unset] [])) _
      refine XS.aloadN X2.here hx rfl (hb hby d6_8) rfl rfl ?_
      exact kz
    refine OG.step s3 ?_
    obtain ⟨T4, X4, e4, st4⟩ := getF X2 hx hZ hown (host := "") (Or.inl (hw _ (List.mem_of_getElem? (i := 10) rfl))) Via.refl e2 F1_a1_members (g := (mkF m 9 #[.val (.ref a1), .val (.int (Int32.ofNat x)), .unset] [(.ref a1)])) rfl rfl (hb hby d6_9)
    refine OG.step st4 ?_
    show OG _ _ _ _ _ _ _ (T4.setTop (mkF m 12 #[.val (.ref a1), .val (.int (Int32.ofNat x)), .unset] [(.ref am)]))
    have s5 : ∀ tz, Steps p.tables e below (T4.setTop (mkF m 14 #[.val (.ref a1), .val (.int (Int32.ofNat x)), .unset] [(.ref a1), (.ref a1), (.ref am)])) tz → Steps p.tables e below (T4.setTop (mkF m 12 #[.val (.ref a1), .val (.int (Int32.ofNat x)), .unset] [(.ref am)])) tz := by
      intro tz kz
      refine XS.aloadN X4.here hx rfl (hb hby d6_12) rfl rfl ?_
      show Steps p.tables e below (T4.setTop (mkF m 13 #[.val (.ref a1), .val (.int (Int32.ofNat x)), .unset] [(.ref a1), (.ref am)])) _
      refine XS.dup X4.here hx rfl (hb hby d6_13) rfl rfl ?_
      exact kz
    refine OG.step s5 ?_
    obtain ⟨T6, X6, e6, st6⟩ := getF X4 hx hZ hown (host := "") (Or.inl (hw _ (List.mem_of_getElem? (i := 28) rfl))) Via.refl e4 F3_a1_size (g := (mkF m 14 #[.val (.ref a1), .val (.int (Int32.ofNat x)), .unset] [(.ref a1), (.ref a1), (.ref am)])) rfl rfl (hb hby d6_14)
    refine OG.step st6 ?_
    show OG _ _ _ _ _ _ _ (T6.setTop (mkF m 17 #[.val (.ref a1), .val (.int (Int32.ofNat x)), .unset] [(.int (Int32.ofNat n)), (.ref a1), (.ref am)]))
    have s7 : ∀ tz, Steps p.tables e below (T6.setTop (mkF m 19 #[.val (.ref a1), .val (.int (Int32.ofNat x)), .unset] [(.int ((Int32.ofNat n) - (1 : Int32))), (.ref a1), (.ref am)])) tz → Steps p.tables e below (T6.setTop (mkF m 17 #[.val (.ref a1), .val (.int (Int32.ofNat x)), .unset] [(.int (Int32.ofNat n)), (.ref a1), (.ref am)])) tz := by
      intro tz kz
      refine XS.iconst X6.here hx rfl (hb hby d6_17) ?_
      show Steps p.tables e below (T6.setTop (mkF m 18 #[.val (.ref a1), .val (.int (Int32.ofNat x)), .unset] [(.int (1 : Int32)), (.int (Int32.ofNat n)), (.ref a1), (.ref am)])) _
      refine XS.isub X6.here hx rfl (hb hby d6_18) rfl ?_
      exact kz
    refine OG.step s7 ?_
    rw [own_dec (own_one I hc5)]
    have s8 : ∀ tz, Steps p.tables e below (T6.setTop (mkF m 20 #[.val (.ref a1), .val (.int (Int32.ofNat x)), .unset] [(.int (Int32.ofNat (n - 1))), (.ref a1), (.int (Int32.ofNat (n - 1))), (.ref am)])) tz → Steps p.tables e below (T6.setTop (mkF m 19 #[.val (.ref a1), .val (.int (Int32.ofNat x)), .unset] [(.int (Int32.ofNat (n - 1))), (.ref a1), (.ref am)])) tz := by
      intro tz kz
      refine XS.dupX1 X6.here hx rfl (hb hby d6_19) rfl rfl rfl ?_
      exact kz
    refine OG.step s8 ?_
    obtain ⟨T9, h9, X9, e9, W9, st9⟩ := putF X6 hx hZ hown (host := "") (Or.inl (hw _ (List.mem_of_getElem? (i := 28) rfl))) Via.refl e6 F3_a1_size F0_a1 (Or.inl (hw _ (List.mem_of_getElem? (i := 29) rfl))) (hw _ (List.mem_of_getElem? (i := 1) rfl)) (ty := .int) (by decide) rfl rfl (g := (mkF m 20 #[.val (.ref a1), .val (.int (Int32.ofNat x)), .unset] [(.int (Int32.ofNat (n - 1))), (.ref a1), (.int (Int32.ofNat (n - 1))), (.ref am)])) rfl rfl (hb hby d6_20)
    refine OG.step st9 ?_
    have fw9 := F3_a1_size.same W9
    have f10 := F0_a1.wr W9
    have f11 := F1_a1_members.other W9 (Or.inr (slot_ne (Or.inr (hw _ (List.mem_of_getElem? (i := 11) rfl))) (Or.inl (hw _ (List.mem_of_getElem? (i := 29) rfl))) (by decide) (t := (.array .int)) (t' := .int) (by decide) (by decide)))
    have f12 := F2_a1_places.other W9 (Or.inr (slot_ne (Or.inr (hw _ (List.mem_of_getElem? (i := 13) rfl))) (Or.inl (hw _ (List.mem_of_getElem? (i := 29) rfl))) (by decide) (t := (.array .int)) (t' := .int) (by decide) (by decide)))
    have f13 := F4_am.other W9 (Ne.symm ne_a1_am)
    have f14 := F5_ap.other W9 (Ne.symm ne_a1_ap)
    have K9 := K0.wr W9 (Or.inl (List.mem_of_getElem? (i := 0) rfl))
    have N9 := Fr.snoc X9 N2 g_a1
    show OG _ _ _ _ _ _ _ (T9.setTop (mkF m 23 #[.val (.ref a1), .val (.int (Int32.ofNat x)), .unset] [(.int (Int32.ofNat (n - 1))), (.ref am)]))
    have av15 := f13
    obtain ⟨cl15, Ar15, q15, S15, Nn15, H15, G15⟩ := av15
    have hin15 : ¬ ((Int32.ofNat (n - 1)) < 0 ∨ cl15.slots.size ≤ ((Int32.ofNat (n - 1))).toNatClampNeg) := inb_of S15 ⟨(own_lo (own_pred I hc5)), (own_hi (own_pred I hc5))⟩
    have hat15 : cl15.slots[((Int32.ofNat (n - 1))).toNatClampNeg]? = some (.int (Int32.ofNat (M ((n - 1))))) := H15.at hin15 (own_get M (own_pred I hc5))
    refine OG.step (X9.iaload hx (j := (Int32.ofNat (n - 1))) (v := (.int (Int32.ofNat (M ((n - 1)))))) (by rw [e9]; exact Ar15.1) (State.isArrayOf_alike hZ.alike Ar15.2.1) Ar15.2.2 hin15 hat15 (g := (mkF m 23 #[.val (.ref a1), .val (.int (Int32.ofNat x)), .unset] [(.int (Int32.ofNat (n - 1))), (.ref am)])) rfl rfl (hb hby d6_23)) ?_
    show OG _ _ _ _ _ _ _ (T9.setTop (mkF m 24 #[.val (.ref a1), .val (.int (Int32.ofNat x)), .unset] [(.int (Int32.ofNat (M ((n - 1)))))]))
    have s16 : ∀ tz, Steps p.tables e below (T9.setTop (mkF m 26 #[.val (.ref a1), .val (.int (Int32.ofNat x)), .val (.int (Int32.ofNat (M ((n - 1)))))] [(.ref a1)])) tz → Steps p.tables e below (T9.setTop (mkF m 24 #[.val (.ref a1), .val (.int (Int32.ofNat x)), .unset] [(.int (Int32.ofNat (M ((n - 1)))))])) tz := by
      intro tz kz
      refine XS.istoreN X9.here hx rfl (hb hby d6_24) rfl (l' := #[.val (.ref a1), .val (.int (Int32.ofNat x)), .val (.int (Int32.ofNat (M ((n - 1)))))]) rfl ?_
      show Steps p.tables e below (T9.setTop (mkF m 25 #[.val (.ref a1), .val (.int (Int32.ofNat x)), .val (.int (Int32.ofNat (M ((n - 1)))))] [])) _
      refine XS.aloadN X9.here hx rfl (hb hby d6_25) rfl rfl ?_
      exact kz
    refine OG.step s16 ?_
    obtain ⟨T17, X17, e17, st17⟩ := getF X9 hx hZ hown (host := "") (Or.inl (hw _ (List.mem_of_getElem? (i := 10) rfl))) Via.refl e9 f11 (g := (mkF m 26 #[.val (.ref a1), .val (.int (Int32.ofNat x)), .val (.int (Int32.ofNat (M ((n - 1)))))] [(.ref a1)])) rfl rfl (hb hby d6_26)
    refine OG.step st17 ?_
    show OG _ _ _ _ _ _ _ (T17.setTop (mkF m 29 #[.val (.ref a1), .val (.int (Int32.ofNat x)), .val (.int (Int32.ofNat (M ((n - 1)))))] [(.ref am)]))
    have s18 : ∀ tz, Steps p.tables e below (T17.setTop (mkF m 30 #[.val (.ref a1), .val (.int (Int32.ofNat x)), .val (.int (Int32.ofNat (M ((n - 1)))))] [(.ref a1), (.ref am)])) tz → Steps p.tables e below (T17.setTop (mkF m 29 #[.val (.ref a1), .val (.int (Int32.ofNat x)), .val (.int (Int32.ofNat (M ((n - 1)))))] [(.ref am)])) tz := by
      intro tz kz
      refine XS.aloadN X17.here hx rfl (hb hby d6_29) rfl rfl ?_
      exact kz
    refine OG.step s18 ?_
    obtain ⟨T19, X19, e19, st19⟩ := getF X17 hx hZ hown (host := "") (Or.inl (hw _ (List.mem_of_getElem? (i := 12) rfl))) Via.refl e17 f12 (g := (mkF m 30 #[.val (.ref a1), .val (.int (Int32.ofNat x)), .val (.int (Int32.ofNat (M ((n - 1)))))] [(.ref a1), (.ref am)])) rfl rfl (hb hby d6_30)
    refine OG.step st19 ?_
    show OG _ _ _ _ _ _ _ (T19.setTop (mkF m 33 #[.val (.ref a1), .val (.int (Int32.ofNat x)), .val (.int (Int32.ofNat (M ((n - 1)))))] [(.ref ap), (.ref am)]))
    have s20 : ∀ tz, Steps p.tables e below (T19.setTop (mkF m 34 #[.val (.ref a1), .val (.int (Int32.ofNat x)), .val (.int (Int32.ofNat (M ((n - 1)))))] [(.int (Int32.ofNat x)), (.ref ap), (.ref am)])) tz → Steps p.tables e below (T19.setTop (mkF m 33 #[.val (.ref a1), .val (.int (Int32.ofNat x)), .val (.int (Int32.ofNat (M ((n - 1)))))] [(.ref ap), (.ref am)])) tz := by
      intro tz kz
      refine XS.iloadN X19.here hx rfl (hb hby d6_33) rfl ?_
      exact kz
    refine OG.step s20 ?_
    have av21 := f14
    obtain ⟨cl21, Ar21, q21, S21, Nn21, H21, G21⟩ := av21
    have hin21 : ¬ ((Int32.ofNat x) < 0 ∨ cl21.slots.size ≤ ((Int32.ofNat x)).toNatClampNeg) := inb_of S21 ⟨(own_lo hx4), (own_hi hx4)⟩
    have hat21 : cl21.slots[((Int32.ofNat x)).toNatClampNeg]? = some (.int (Int32.ofNat (P x))) := H21.at hin21 (own_get P hx4)
    refine OG.step (X19.iaload hx (j := (Int32.ofNat x)) (v := (.int (Int32.ofNat (P x)))) (by rw [e19]; exact Ar21.1) (State.isArrayOf_alike hZ.alike Ar21.2.1) Ar21.2.2 hin21 hat21 (g := (mkF m 34 #[.val (.ref a1), .val (.int (Int32.ofNat x)), .val (.int (Int32.ofNat (M ((n - 1)))))] [(.int (Int32.ofNat x)), (.ref ap), (.ref am)])) rfl rfl (hb hby d6_34)) ?_
    show OG _ _ _ _ _ _ _ (T19.setTop (mkF m 35 #[.val (.ref a1), .val (.int (Int32.ofNat x)), .val (.int (Int32.ofNat (M ((n - 1)))))] [(.int (Int32.ofNat (P x))), (.ref am)]))
    have s22 : ∀ tz, Steps p.tables e below (T19.setTop (mkF m 36 #[.val (.ref a1), .val (.int (Int32.ofNat x)), .val (.int (Int32.ofNat (M ((n - 1)))))] [(.int (Int32.ofNat (M ((n - 1))))), (.int (Int32.ofNat (P x))), (.ref am)])) tz → Steps p.tables e below (T19.setTop (mkF m 35 #[.val (.ref a1), .val (.int (Int32.ofNat x)), .val (.int (Int32.ofNat (M ((n - 1)))))] [(.int (Int32.ofNat (P x))), (.ref am)])) tz := by
      intro tz kz
      refine XS.iloadN X19.here hx rfl (hb hby d6_35) rfl ?_
      exact kz
    refine OG.step s22 ?_
    have av23 := f13
    obtain ⟨cl23, Ar23, q23, S23, Nn23, H23, G23⟩ := av23
    have hin23 : ¬ ((Int32.ofNat (P x)) < 0 ∨ cl23.slots.size ≤ ((Int32.ofNat (P x))).toNatClampNeg) := inb_of S23 ⟨(own_lo (I.2.1 x)), (own_hi (I.2.1 x))⟩
    obtain ⟨T24, h24, X24, e24, W24, st24⟩ := stI X19 hx hZ e19 Ar23 (j := (Int32.ofNat (P x))) hin23 (g := (mkF m 36 #[.val (.ref a1), .val (.int (Int32.ofNat x)), .val (.int (Int32.ofNat (M ((n - 1)))))] [(.int (Int32.ofNat (M ((n - 1))))), (.int (Int32.ofNat (P x))), (.ref am)])) rfl rfl (hb hby d6_36)
    refine OG.step st24 ?_
    have Va24 := Arv.set Ar23 q23 S23 Nn23 H23 G23 rfl W24 ((P x)) (own_cl (I.2.1 x)) (own_len M (I.2.1 x))
    have V24 : Arv Z h24 am km .int (4 : Int32) (own_vs (own_up M ((P x)) ((M ((n - 1)))))) (.int (0 : Int32)) := by rw [own_set M (I.2.1 x) ((M ((n - 1))))] at Va24; exact Va24
    have f25 := f10.wr W24
    have f26 := f11.other W24 (Or.inl ne_a1_am)
    have f27 := f12.other W24 (Or.inl ne_a1_am)
    have f28 := f14.other W24 (Ne.symm ne_am_ap)
    have f29 := fw9.other W24 (Or.inl ne_a1_am)
    have K24 := K9.wr W24 (Or.inl (List.mem_of_getElem? (i := 1) rfl))
    have N24 := Fr.snoc X24 N9 g_am
    show OG _ _ _ _ _ _ _ (T24.setTop (mkF m 37 #[.val (.ref a1), .val (.int (Int32.ofNat x)), .val (.int (Int32.ofNat (M ((n - 1)))))] []))
    have s30 : ∀ tz, Steps p.tables e below (T24.setTop (mkF m 38 #[.val (.ref a1), .val (.int (Int32.ofNat x)), .val (.int (Int32.ofNat (M ((n - 1)))))] [(.ref a1)])) tz → Steps p.tables e below (T24.setTop (mkF m 37 #[.val (.ref a1), .val (.int (Int32.ofNat x)), .val (.int (Int32.ofNat (M ((n - 1)))))] [])) tz := by
      intro tz kz
      refine XS.aloadN X24.here hx rfl (hb hby d6_37) rfl rfl ?_
      exact kz
    refine OG.step s30 ?_
    obtain ⟨T31, X31, e31, st31⟩ := getF X24 hx hZ hown (host := "") (Or.inl (hw _ (List.mem_of_getElem? (i := 12) rfl))) Via.refl e24 f27 (g := (mkF m 38 #[.val (.ref a1), .val (.int (Int32.ofNat x)), .val (.int (Int32.ofNat (M ((n - 1)))))] [(.ref a1)])) rfl rfl (hb hby d6_38)
    refine OG.step st31 ?_
    show OG _ _ _ _ _ _ _ (T31.setTop (mkF m 41 #[.val (.ref a1), .val (.int (Int32.ofNat x)), .val (.int (Int32.ofNat (M ((n - 1)))))] [(.ref ap)]))
    have s32 : ∀ tz, Steps p.tables e below (T31.setTop (mkF m 43 #[.val (.ref a1), .val (.int (Int32.ofNat x)), .val (.int (Int32.ofNat (M ((n - 1)))))] [(.ref a1), (.int (Int32.ofNat (M ((n - 1))))), (.ref ap)])) tz → Steps p.tables e below (T31.setTop (mkF m 41 #[.val (.ref a1), .val (.int (Int32.ofNat x)), .val (.int (Int32.ofNat (M ((n - 1)))))] [(.ref ap)])) tz := by
      intro tz kz
      refine XS.iloadN X31.here hx rfl (hb hby d6_41) rfl ?_
      show Steps p.tables e below (T31.setTop (mkF m 42 #[.val (.ref a1), .val (.int (Int32.ofNat x)), .val (.int (Int32.ofNat (M ((n - 1)))))] [(.int (Int32.ofNat (M ((n - 1))))), (.ref ap)])) _
      refine XS.aloadN X31.here hx rfl (hb hby d6_42) rfl rfl ?_
      exact kz
    refine OG.step s32 ?_
    obtain ⟨T33, X33, e33, st33⟩ := getF X31 hx hZ hown (host := "") (Or.inl (hw _ (List.mem_of_getElem? (i := 12) rfl))) Via.refl e31 f27 (g := (mkF m 43 #[.val (.ref a1), .val (.int (Int32.ofNat x)), .val (.int (Int32.ofNat (M ((n - 1)))))] [(.ref a1), (.int (Int32.ofNat (M ((n - 1))))), (.ref ap)])) rfl rfl (hb hby d6_43)
    refine OG.step st33 ?_
    show OG _ _ _ _ _ _ _ (T33.setTop (mkF m 46 #[.val (.ref a1), .val (.int (Int32.ofNat x)), .val (.int (Int32.ofNat (M ((n - 1)))))] [(.ref ap), (.int (Int32.ofNat (M ((n - 1))))), (.ref ap)]))
    have s34 : ∀ tz, Steps p.tables e below (T33.setTop (mkF m 47 #[.val (.ref a1), .val (.int (Int32.ofNat x)), .val (.int (Int32.ofNat (M ((n - 1)))))] [(.int (Int32.ofNat x)), (.ref ap), (.int (Int32.ofNat (M ((n - 1))))), (.ref ap)])) tz → Steps p.tables e below (T33.setTop (mkF m 46 #[.val (.ref a1), .val (.int (Int32.ofNat x)), .val (.int (Int32.ofNat (M ((n - 1)))))] [(.ref ap), (.int (Int32.ofNat (M ((n - 1))))), (.ref ap)])) tz := by
      intro tz kz
      refine XS.iloadN X33.here hx rfl (hb hby d6_46) rfl ?_
      exact kz
    refine OG.step s34 ?_
    have av35 := f28
    obtain ⟨cl35, Ar35, q35, S35, Nn35, H35, G35⟩ := av35
    have hin35 : ¬ ((Int32.ofNat x) < 0 ∨ cl35.slots.size ≤ ((Int32.ofNat x)).toNatClampNeg) := inb_of S35 ⟨(own_lo hx4), (own_hi hx4)⟩
    have hat35 : cl35.slots[((Int32.ofNat x)).toNatClampNeg]? = some (.int (Int32.ofNat (P x))) := H35.at hin35 (own_get P hx4)
    refine OG.step (X33.iaload hx (j := (Int32.ofNat x)) (v := (.int (Int32.ofNat (P x)))) (by rw [e33]; exact Ar35.1) (State.isArrayOf_alike hZ.alike Ar35.2.1) Ar35.2.2 hin35 hat35 (g := (mkF m 47 #[.val (.ref a1), .val (.int (Int32.ofNat x)), .val (.int (Int32.ofNat (M ((n - 1)))))] [(.int (Int32.ofNat x)), (.ref ap), (.int (Int32.ofNat (M ((n - 1))))), (.ref ap)])) rfl rfl (hb hby d6_47)) ?_
    show OG _ _ _ _ _ _ _ (T33.setTop (mkF m 48 #[.val (.ref a1), .val (.int (Int32.ofNat x)), .val (.int (Int32.ofNat (M ((n - 1)))))] [(.int (Int32.ofNat (P x))), (.int (Int32.ofNat (M ((n - 1))))), (.ref ap)]))
    have av36 := f28
    obtain ⟨cl36, Ar36, q36, S36, Nn36, H36, G36⟩ := av36
    have hin36 : ¬ ((Int32.ofNat (M ((n - 1)))) < 0 ∨ cl36.slots.size ≤ ((Int32.ofNat (M ((n - 1))))).toNatClampNeg) := inb_of S36 ⟨(own_lo (I.1 (n - 1))), (own_hi (I.1 (n - 1)))⟩
    obtain ⟨T37, h37, X37, e37, W37, st37⟩ := stI X33 hx hZ e33 Ar36 (j := (Int32.ofNat (M ((n - 1))))) hin36 (g := (mkF m 48 #[.val (.ref a1), .val (.int (Int32.ofNat x)), .val (.int (Int32.ofNat (M ((n - 1)))))] [(.int (Int32.ofNat (P x))), (.int (Int32.ofNat (M ((n - 1))))), (.ref ap)])) rfl rfl (hb hby d6_48)
    refine OG.step st37 ?_
    have Va37 := Arv.set Ar36 q36 S36 Nn36 H36 G36 rfl W37 ((M ((n - 1)))) (own_cl (I.1 (n - 1))) (own_len P (I.1 (n - 1)))
    have V37 : Arv Z h37 ap kp .int (4 : Int32) (own_vs (own_up P ((M ((n - 1)))) ((P x)))) (.int (0 : Int32)) := by rw [own_set P (I.1 (n - 1)) ((P x))] at Va37; exact Va37
    have f38 := f25.wr W37
    have f39 := f26.other W37 (Or.inl ne_a1_ap)
    have f40 := f27.other W37 (Or.inl ne_a1_ap)
    have f41 := f29.other W37 (Or.inl ne_a1_ap)
    have f42 := V24.other W37 ne_am_ap
    have K37 := K24.wr W37 (Or.inl (List.mem_of_getElem? (i := 2) rfl))
    have N37 := Fr.snoc X37 N24 g_ap
    show OG _ _ _ _ _ _ _ (T37.setTop (mkF m 49 #[.val (.ref a1), .val (.int (Int32.ofNat x)), .val (.int (Int32.ofNat (M ((n - 1)))))] []))
    exact OG.retV X37 hx hlk Bd.returns (hb hby d6_49) e37 ⟨(own_up M (P x) (M (n - 1))), (own_up P (M (n - 1)) (P x)), (n - 1), rfl, N37, K37, f38, f39, f40, f41, f42, V37, (own_remI I hx4 hc5), (own_remC I hx4 hc5)⟩ (by decide) (by decide)
  · have s43 : ∀ tz, Steps p.tables e below (T2.setTop (mkF m 49 #[.val (.ref a1), .val (.int (Int32.ofNat x)), .unset] [])) tz → Steps p.tables e below (T2.setTop (mkF m 5 #[.val (.ref a1), .val (.int (Int32.ofNat x)), .unset] [(.int (bI (P x < n ∧ M (P x) = x)))])) tz := by
      intro tz kz
      refine XS.ifYes X2.here hx rfl (pc0 := 5) (pc' := 49) rfl (hb hby d6_5) rfl ((if0 _ _).trans (teq (bI_0 hc5)).1) (by decide) (by decide) ?_
      exact kz
    refine OG.step s43 ?_
    exact OG.retV X2 hx hlk Bd.returns (hb hby d6_49) e2 ⟨M, P, n, rfl, N2, K0, F0_a1, F1_a1_members, F2_a1_places, F3_a1_size, F4_am, F5_ap, I, (own_rem0 hc5)⟩ (by decide) (by decide)
theorem d7_0 : decode prog_34_method_7_code 0 = .ok (.aload_n 0, 1) := by decide +kernel
theorem d7_1 : decode prog_34_method_7_code 1 = .ok (.iconst 0, 1) := by decide +kernel
theorem d7_2 : decode prog_34_method_7_code 2 = .ok (.putfield 16, 3) := by decide +kernel
theorem d7_5 : decode prog_34_method_7_code 5 = .ok (.return_, 1) := by decide +kernel
theorem ef_7 (m : MethodId) (x0 : Addr) : entryFrame m #[(.ref x0)] 1 = mkF m 0 #[.val (.ref x0)] [] := by first | (simp [entryFrame, mkF, argsToLocals, Value.category]; done) | rfl
def Q7 (Z : State) (a1 : Addr) (am : Addr) (ap : Addr) (km : ClassId) (kp : ClassId) (M : Nat → Nat) (P : Nat → Nat) (n : Nat) (h0 : Heap) (n0 : Nat) (v : Option Value) (h : Heap) (L : List Loc) : Prop := (v = none) ∧ (Fr n0 L) ∧ (Keep h0 h [a1]) ∧ (Fld Z h a1 "com/example/tidegraph/tidegraph/amd64/SparseSet" "size" "I" (.int (0 : Int32))) ∧ (Fld Z h a1 "com/example/tidegraph/tidegraph/amd64/SparseSet" "members" "[I" (.ref am)) ∧ (Fld Z h a1 "com/example/tidegraph/tidegraph/amd64/SparseSet" "places" "[I" (.ref ap))
abbrev rom_7 : Room := { frames := 0, cells := 0, slots := 0, locals := 0 }
set_option maxRecDepth 65536 in
set_option maxHeartbeats 40000000 in
theorem rm7 (l : Launch) (Z : State) (a0 : Array Value) (hw : ∀ d ∈ tables_1, d.before a0 Z = true) (ws : List Jvm.Cond) (a1 : Addr) (am : Addr) (ap : Addr) (km : ClassId) (kp : ClassId) (M : Nat → Nat) (P : Nat → Nat) (n : Nat) (h0 : Heap) (n0 : Nat) (Z0 : n0 ≤ h0.size) (F0_a1 : Exa Z h0 a1 "com/example/tidegraph/tidegraph/amd64/SparseSet") (F1_a1_members : Fld Z h0 a1 "com/example/tidegraph/tidegraph/amd64/SparseSet" "members" "[I" (.ref am)) (F2_a1_places : Fld Z h0 a1 "com/example/tidegraph/tidegraph/amd64/SparseSet" "places" "[I" (.ref ap)) (F3_a1_size : Fld Z h0 a1 "com/example/tidegraph/tidegraph/amd64/SparseSet" "size" "I" (.int (Int32.ofNat n))) (F4_am : Arv Z h0 am km .int (4 : Int32) (own_vs M) (.int (0 : Int32))) (F5_ap : Arv Z h0 ap kp .int (4 : Int32) (own_vs P) (.int (0 : Int32))) (ne_a1_am : a1 ≠ am) (ne_a1_ap : a1 ≠ ap) (ne_am_ap : am ≠ ap) (g_a1 : n0 ≤ a1) (g_am : n0 ≤ am) (g_ap : n0 ≤ ap) (I : own_Inv M P n) :
    MetFree l (⟨"com/example/tidegraph/tidegraph/amd64/SparseSet", "clear", "()V"⟩ : MethodName) (head1 (Jvm.Cond.code (⟨"com/example/tidegraph/tidegraph/amd64/SparseSet", "clear", "()V"⟩ : MethodName) prog_34_method_7_code 1 none :: ws) rom_7) (fun a U => a = #[(.ref a1)] ∧ Z.Warmed39 U.vm ∧ U.heap = h0) (fun _ _ _ _ _ => True) (fun _ U o U' => ∃ v L, o = .returned v ∧ Q7 Z a1 am ap km kp M P n h0 n0 v U'.heap L ∧ FrameEnd U o U' L rom_7.cells rom_7.slots) := by
  refine MetFree.of_bodySF (plainFor_of_name pn_com_example_tidegraph_tidegraph_amd64_SparseSet) hisR ?_
  intro p e s m args below meth c s₁ Bd hml0 hP hK
  obtain ⟨rfl, hZ, hh⟩ := hP
  have hx := Bd.exec
  have hby := Bd.bytes
  have hlk := Bd.notSynchronized
  have hml : c.maxLocals = 1 := hml0
  have hown : s.vm.findClass "com/example/tidegraph/tidegraph/amd64/SparseSet" = some m.cls := findClass_of_methodNamed Bd.named
  have hnm := (name_of_methodNamed Bd.named Bd.method).1
  have X0 : Stand p l e rom_7 s m #[(.ref a1)] below meth c s₁ [] 0 0 := Stand.of_body Bd
  have e0 : s₁.heap = h0 := by rw [← hh, Bd.state]; rfl
  have N0 := Fr.nil n0
  have K0 : Keep h0 h0 [a1] := Keep.refl _ _
  refine (?_ : OG p e below s (Q7 Z a1 am ap km kp M P n h0 n0) rom_7.cells rom_7.slots _)
  rw [ef_7]
  have s1 : ∀ tz, Steps p.tables e below (s₁.setTop (mkF m 2 #[.val (.ref a1)] [(.int (0 : Int32)), (.ref a1)])) tz → Steps p.tables e below (s₁.setTop (mkF m 0 #[.val (.ref a1)] [])) tz := by
    intro tz kz
    refine XS.aloadN X0.here hx rfl (hb hby d7_0) rfl rfl ?_
    show Steps p.tables e below (s₁.setTop (mkF m 1 #[.val (.ref a1)] [(.ref a1)])) _
    refine XS.iconst X0.here hx rfl (hb hby d7_1) ?_
    exact kz
  refine OG.step s1 ?_
  obtain ⟨T2, h2, X2, e2, W2, st2⟩ := putF X0 hx hZ hown (host := "") (Or.inl (hw _ (List.mem_of_getElem? (i := 28) rfl))) Via.refl e0 F3_a1_size F0_a1 (Or.inl (hw _ (List.mem_of_getElem? (i := 29) rfl))) (hw _ (List.mem_of_getElem? (i := 1) rfl)) (ty := .int) (by decide) rfl rfl (g := (mkF m 2 #[.val (.ref a1)] [(.int (0 : Int32)), (.ref a1)])) rfl rfl (hb hby d7_2)
  refine OG.step st2 ?_
  have fw2 := F3_a1_size.same W2
  have f3 := F0_a1.wr W2
  have f4 := F1_a1_members.other W2 (Or.inr (slot_ne (Or.inr (hw _ (List.mem_of_getElem? (i := 11) rfl))) (Or.inl (hw _ (List.mem_of_getElem? (i := 29) rfl))) (by decide) (t := (.array .int)) (t' := .int) (by decide) (by decide)))
  have f5 := F2_a1_places.other W2 (Or.inr (slot_ne (Or.inr (hw _ (List.mem_of_getElem? (i := 13) rfl))) (Or.inl (hw _ (List.mem_of_getElem? (i := 29) rfl))) (by decide) (t := (.array .int)) (t' := .int) (by decide) (by decide)))
  have f6 := F4_am.other W2 (Ne.symm ne_a1_am)
  have f7 := F5_ap.other W2 (Ne.symm ne_a1_ap)
  have K2 := K0.wr W2 (Or.inl (List.mem_of_getElem? (i := 0) rfl))
  have N2 := Fr.snoc X2 N0 g_a1
  show OG _ _ _ _ _ _ _ (T2.setTop (mkF m 5 #[.val (.ref a1)] []))
  exact OG.retV X2 hx hlk Bd.returns (hb hby d7_5) e2 ⟨rfl, N2, K2, fw2, f4, f5⟩ (by decide) (by decide)
theorem d3_0 : decode method_2_code 0 = .ok (.iload_n 2, 1) := by decide +kernel
theorem d3_1 : decode method_2_code 1 = .ok (.iconst 3, 1) := by decide +kernel
theorem d3_2 : decode method_2_code 2 = .ok (.iand, 1) := by decide +kernel
theorem d3_3 : decode method_2_code 3 = .ok (.istore_n 3, 1) := by decide +kernel
theorem d3_4 : decode method_2_code 4 = .ok (.iload_n 2, 1) := by decide +kernel
theorem d3_5 : decode method_2_code 5 = .ok (.iconst 2, 1) := by decide +kernel
theorem d3_6 : decode method_2_code 6 = .ok (.iushr, 1) := by decide +kernel
theorem d3_7 : decode method_2_code 7 = .ok (.iconst 3, 1) := by decide +kernel
theorem d3_8 : decode method_2_code 8 = .ok (.iand, 1) := by decide +kernel
theorem d3_9 : decode method_2_code 9 = .ok (.istore 4, 2) := by decide +kernel
theorem d3_11 : decode method_2_code 11 = .ok (.iload_n 3, 1) := by decide +kernel
theorem d3_12 : decode method_2_code 12 = .ok (.iconst 2, 1) := by decide +kernel
theorem d3_13 : decode method_2_code 13 = .ok (.if_icmp .ge 16, 3) := by decide +kernel
theorem d3_16 : decode method_2_code 16 = .ok (.aload_n 0, 1) := by decide +kernel
theorem d3_17 : decode method_2_code 17 = .ok (.iload 4, 2) := by decide +kernel
theorem d3_19 : decode method_2_code 19 = .ok (.invokevirtual 7, 3) := by decide +kernel
theorem d3_22 : decode method_2_code 22 = .ok (.iload_n 1, 1) := by decide +kernel
theorem d3_23 : decode method_2_code 23 = .ok (.iconst 1, 1) := by decide +kernel
theorem d3_24 : decode method_2_code 24 = .ok (.iload 4, 2) := by decide +kernel
theorem d3_26 : decode method_2_code 26 = .ok (.ishl, 1) := by decide +kernel
theorem d3_27 : decode method_2_code 27 = .ok (.ior, 1) := by decide +kernel
theorem d3_28 : decode method_2_code 28 = .ok (.ireturn, 1) := by decide +kernel
theorem d3_29 : decode method_2_code 29 = .ok (.iload_n 3, 1) := by decide +kernel
theorem d3_30 : decode method_2_code 30 = .ok (.iconst 2, 1) := by decide +kernel
theorem d3_31 : decode method_2_code 31 = .ok (.if_icmp .ne 18, 3) := by decide +kernel
theorem d3_34 : decode method_2_code 34 = .ok (.aload_n 0, 1) := by decide +kernel
theorem d3_35 : decode method_2_code 35 = .ok (.iload 4, 2) := by decide +kernel
theorem d3_37 : decode method_2_code 37 = .ok (.invokevirtual 13, 3) := by decide +kernel
theorem d3_40 : decode method_2_code 40 = .ok (.iload_n 1, 1) := by decide +kernel
theorem d3_41 : decode method_2_code 41 = .ok (.iconst 1, 1) := by decide +kernel
theorem d3_42 : decode method_2_code 42 = .ok (.iload 4, 2) := by decide +kernel
theorem d3_44 : decode method_2_code 44 = .ok (.ishl, 1) := by decide +kernel
theorem d3_45 : decode method_2_code 45 = .ok (.iconst (-1), 1) := by decide +kernel
theorem d3_46 : decode method_2_code 46 = .ok (.ixor, 1) := by decide +kernel
theorem d3_47 : decode method_2_code 47 = .ok (.iand, 1) := by decide +kernel
theorem d3_48 : decode method_2_code 48 = .ok (.ireturn, 1) := by decide +kernel
theorem d3_49 : decode method_2_code 49 = .ok (.aload_n 0, 1) := by decide +kernel
theorem d3_50 : decode method_2_code 50 = .ok (.invokevirtual 16, 3) := by decide +kernel
theorem d3_53 : decode method_2_code 53 = .ok (.iconst 0, 1) := by decide +kernel
theorem d3_54 : decode method_2_code 54 = .ok (.ireturn, 1) := by decide +kernel
theorem pn_com_example_tidegraph_tidegraph_amd64_SparseSetContainsPinLaw : plainName "com/example/tidegraph/tidegraph/amd64/SparseSetContainsPinLaw" = true := by first | (simp [plainName, overriddenIn]; done) | decide +kernel
theorem ef_3 (m : MethodId) (x0 : Addr) (x1 : Int32) (x2 : Int32) : entryFrame m #[(.ref x0), (.int x1), (.int x2)] 5 = mkF m 0 #[.val (.ref x0), .val (.int x1), .val (.int x2), .unset, .unset] [] := by first | (simp [entryFrame, mkF, argsToLocals, Value.category]; done) | rfl
def Q3 (Z : State) (a1 : Addr) (p2 : Int32) (am : Addr) (ap : Addr) (km : ClassId) (kp : ClassId) (M : Nat → Nat) (P : Nat → Nat) (n : Nat) (k : Nat) (h0 : Heap) (n0 : Nat) (v : Option Value) (h : Heap) (L : List Loc) : Prop := ∃ (M2 : Nat → Nat) (P2 : Nat → Nat) (n2 : Nat) (k2 : Nat), (v = some (.int (Int32.ofNat k2))) ∧ (Fr n0 L) ∧ (Keep h0 h [a1, am, ap]) ∧ (Exa Z h a1 "com/example/tidegraph/tidegraph/amd64/SparseSet") ∧ (Fld Z h a1 "com/example/tidegraph/tidegraph/amd64/SparseSet" "members" "[I" (.ref am)) ∧ (Fld Z h a1 "com/example/tidegraph/tidegraph/amd64/SparseSet" "places" "[I" (.ref ap)) ∧ (Fld Z h a1 "com/example/tidegraph/tidegraph/amd64/SparseSet" "size" "I" (.int (Int32.ofNat n2))) ∧ (Arv Z h am km .int (4 : Int32) (own_vs M2) (.int (0 : Int32))) ∧ (Arv Z h ap kp .int (4 : Int32) (own_vs P2) (.int (0 : Int32))) ∧ (own_J M2 P2 n2 k2)
theorem pd__I_V : parseMethodDescriptor "(I)V" = some ⟨[.int], none⟩ := by decide +kernel
theorem pd___V : parseMethodDescriptor "()V" = some ⟨[], none⟩ := by decide +kernel
abbrev rom_3 : Room := { frames := 2, cells := 0, slots := 0, locals := 28 }
set_option maxRecDepth 65536 in
set_option maxHeartbeats 40000000 in
theorem rm3 (l : Launch) (Z : State) (a0 : Array Value) (hw : ∀ d ∈ tables_1, d.before a0 Z = true) (ws : List Jvm.Cond) (a1 : Addr) (p2 : Int32) (am : Addr) (ap : Addr) (km : ClassId) (kp : ClassId) (M : Nat → Nat) (P : Nat → Nat) (n : Nat) (k : Nat) (h0 : Heap) (n0 : Nat) (Z0 : n0 ≤ h0.size) (F0_a1 : Exa Z h0 a1 "com/example/tidegraph/tidegraph/amd64/SparseSet") (F1_a1_members : Fld Z h0 a1 "com/example/tidegraph/tidegraph/amd64/SparseSet" "members" "[I" (.ref am)) (F2_a1_places : Fld Z h0 a1 "com/example/tidegraph/tidegraph/amd64/SparseSet" "places" "[I" (.ref ap)) (F3_a1_size : Fld Z h0 a1 "com/example/tidegraph/tidegraph/amd64/SparseSet" "size" "I" (.int (Int32.ofNat n))) (F4_am : Arv Z h0 am km .int (4 : Int32) (own_vs M) (.int (0 : Int32))) (F5_ap : Arv Z h0 ap kp .int (4 : Int32) (own_vs P) (.int (0 : Int32))) (ne_a1_am : a1 ≠ am) (ne_a1_ap : a1 ≠ ap) (ne_am_ap : am ≠ ap) (g_a1 : n0 ≤ a1) (g_am : n0 ≤ am) (g_ap : n0 ≤ ap) (J : own_J M P n k) :
    MetFree l (⟨"com/example/tidegraph/tidegraph/amd64/SparseSetContainsPinLaw", "step", "(Lcom/example/tidegraph/tidegraph/amd64/SparseSet;II)I"⟩ : MethodName) (head1 (Jvm.Cond.code (⟨"com/example/tidegraph/tidegraph/amd64/SparseSetContainsPinLaw", "step", "(Lcom/example/tidegraph/tidegraph/amd64/SparseSet;II)I"⟩ : MethodName) method_2_code 5 (some .int) :: ws) rom_3) (fun a U => a = #[(.ref a1), (.int (Int32.ofNat k)), (.int p2)] ∧ Z.Warmed39 U.vm ∧ U.heap = h0) (fun _ _ _ _ _ => True) (fun _ U o U' => ∃ v L, o = .returned v ∧ Q3 Z a1 p2 am ap km kp M P n k h0 n0 v U'.heap L ∧ FrameEnd U o U' L rom_3.cells rom_3.slots) := by
  refine MetFree.of_bodySF (plainFor_of_name pn_com_example_tidegraph_tidegraph_amd64_SparseSetContainsPinLaw) hisR ?_
  intro p e s m args below meth c s₁ Bd hml0 hP hK
  obtain ⟨rfl, hZ, hh⟩ := hP
  have hx := Bd.exec
  have hby := Bd.bytes
  have hlk := Bd.notSynchronized
  have hml : c.maxLocals = 5 := hml0
  have hown : s.vm.findClass "com/example/tidegraph/tidegraph/amd64/SparseSetContainsPinLaw" = some m.cls := findClass_of_methodNamed Bd.named
  have hnm := (name_of_methodNamed Bd.named Bd.method).1
  have X0 : Stand p l e rom_3 s m #[(.ref a1), (.int (Int32.ofNat k)), (.int p2)] below meth c s₁ [] 0 0 := Stand.of_body Bd
  have e0 : s₁.heap = h0 := by rw [← hh, Bd.state]; rfl
  have N0 := Fr.nil n0
  have K0 : Keep h0 h0 [a1, am, ap] := Keep.refl _ _
  refine (?_ : OG p e below s (Q3 Z a1 p2 am ap km kp M P n k h0 n0) rom_3.cells rom_3.slots _)
  rw [ef_3]
  have I := J.1
  have hk := J.2.1
  have s1 : ∀ tz, Steps p.tables e below (s₁.setTop (mkF m 11 #[.val (.ref a1), .val (.int (Int32.ofNat k)), .val (.int p2), .val (.int (p2 &&& (3 : Int32))), .val (.int (((p2.toUInt32 >>> ((2 : Int32) &&& 31).toUInt32).toInt32) &&& (3 : Int32)))] [])) tz → Steps p.tables e below (s₁.setTop (mkF m 0 #[.val (.ref a1), .val (.int (Int32.ofNat k)), .val (.int p2), .unset, .unset] [])) tz := by
    intro tz kz
    refine XS.iloadN X0.here hx rfl (hb hby d3_0) rfl ?_
    show Steps p.tables e below (s₁.setTop (mkF m 1 #[.val (.ref a1), .val (.int (Int32.ofNat k)), .val (.int p2), .unset, .unset] [(.int p2)])) _
    refine XS.iconst X0.here hx rfl (hb hby d3_1) ?_
    show Steps p.tables e below (s₁.setTop (mkF m 2 #[.val (.ref a1), .val (.int (Int32.ofNat k)), .val (.int p2), .unset, .unset] [(.int (3 : Int32)), (.int p2)])) _
    refine XS.iand X0.here hx rfl (hb hby d3_2) rfl ?_
    show Steps p.tables e below (s₁.setTop (mkF m 3 #[.val (.ref a1), .val (.int (Int32.ofNat k)), .val (.int p2), .unset, .unset] [(.int (p2 &&& (3 : Int32)))])) _
    refine XS.istoreN X0.here hx rfl (hb hby d3_3) rfl (l' := #[.val (.ref a1), .val (.int (Int32.ofNat k)), .val (.int p2), .val (.int (p2 &&& (3 : Int32))), .unset]) rfl ?_
    show Steps p.tables e below (s₁.setTop (mkF m 4 #[.val (.ref a1), .val (.int (Int32.ofNat k)), .val (.int p2), .val (.int (p2 &&& (3 : Int32))), .unset] [])) _
    refine XS.iloadN X0.here hx rfl (hb hby d3_4) rfl ?_
    show Steps p.tables e below (s₁.setTop (mkF m 5 #[.val (.ref a1), .val (.int (Int32.ofNat k)), .val (.int p2), .val (.int (p2 &&& (3 : Int32))), .unset] [(.int p2)])) _
    refine XS.iconst X0.here hx rfl (hb hby d3_5) ?_
    show Steps p.tables e below (s₁.setTop (mkF m 6 #[.val (.ref a1), .val (.int (Int32.ofNat k)), .val (.int p2), .val (.int (p2 &&& (3 : Int32))), .unset] [(.int (2 : Int32)), (.int p2)])) _
    refine XS.iushr X0.here hx rfl (hb hby d3_6) rfl ?_
    show Steps p.tables e below (s₁.setTop (mkF m 7 #[.val (.ref a1), .val (.int (Int32.ofNat k)), .val (.int p2), .val (.int (p2 &&& (3 : Int32))), .unset] [(.int ((p2.toUInt32 >>> ((2 : Int32) &&& 31).toUInt32).toInt32))])) _
    refine XS.iconst X0.here hx rfl (hb hby d3_7) ?_
    show Steps p.tables e below (s₁.setTop (mkF m 8 #[.val (.ref a1), .val (.int (Int32.ofNat k)), .val (.int p2), .val (.int (p2 &&& (3 : Int32))), .unset] [(.int (3 : Int32)), (.int ((p2.toUInt32 >>> ((2 : Int32) &&& 31).toUInt32).toInt32))])) _
    refine XS.iand X0.here hx rfl (hb hby d3_8) rfl ?_
    show Steps p.tables e below (s₁.setTop (mkF m 9 #[.val (.ref a1), .val (.int (Int32.ofNat k)), .val (.int p2), .val (.int (p2 &&& (3 : Int32))), .unset] [(.int (((p2.toUInt32 >>> ((2 : Int32) &&& 31).toUInt32).toInt32) &&& (3 : Int32)))])) _
    refine XS.istore X0.here hx rfl (hb hby d3_9) rfl (l' := #[.val (.ref a1), .val (.int (Int32.ofNat k)), .val (.int p2), .val (.int (p2 &&& (3 : Int32))), .val (.int (((p2.toUInt32 >>> ((2 : Int32) &&& 31).toUInt32).toInt32) &&& (3 : Int32)))]) rfl ?_
    exact kz
  refine OG.step s1 ?_
  obtain ⟨x, hx4, ex⟩ := own_small ((p2.toUInt32 >>> ((2 : Int32) &&& 31).toUInt32).toInt32)
  rw [ex]
  have s2 : ∀ tz, Steps p.tables e below (s₁.setTop (mkF m 13 #[.val (.ref a1), .val (.int (Int32.ofNat k)), .val (.int p2), .val (.int (p2 &&& (3 : Int32))), .val (.int (Int32.ofNat x))] [(.int (2 : Int32)), (.int (p2 &&& (3 : Int32)))])) tz → Steps p.tables e below (s₁.setTop (mkF m 11 #[.val (.ref a1), .val (.int (Int32.ofNat k)), .val (.int p2), .val (.int (p2 &&& (3 : Int32))), .val (.int (Int32.ofNat x))] [])) tz := by
    intro tz kz
    refine XS.iloadN X0.here hx rfl (hb hby d3_11) rfl ?_
    show Steps p.tables e below (s₁.setTop (mkF m 12 #[.val (.ref a1), .val (.int (Int32.ofNat k)), .val (.int p2), .val (.int (p2 &&& (3 : Int32))), .val (.int (Int32.ofNat x))] [(.int (p2 &&& (3 : Int32)))])) _
    refine XS.iconst X0.here hx rfl (hb hby d3_12) ?_
    exact kz
  refine OG.step s2 ?_
  by_cases hc13 : (p2 &&& (3 : Int32)) < (2 : Int32)
  · have s3 : ∀ tz, Steps p.tables e below (s₁.setTop (mkF m 19 #[.val (.ref a1), .val (.int (Int32.ofNat k)), .val (.int p2), .val (.int (p2 &&& (3 : Int32))), .val (.int (Int32.ofNat x))] [(.int (Int32.ofNat x)), (.ref a1)])) tz → Steps p.tables e below (s₁.setTop (mkF m 13 #[.val (.ref a1), .val (.int (Int32.ofNat k)), .val (.int p2), .val (.int (p2 &&& (3 : Int32))), .val (.int (Int32.ofNat x))] [(.int (2 : Int32)), (.int (p2 &&& (3 : Int32)))])) tz := by
      intro tz kz
      refine XS.icmpNo X0.here hx rfl (hb hby d3_13) rfl (tlt hc13).2.1 ?_
      show Steps p.tables e below (s₁.setTop (mkF m 16 #[.val (.ref a1), .val (.int (Int32.ofNat k)), .val (.int p2), .val (.int (p2 &&& (3 : Int32))), .val (.int (Int32.ofNat x))] [])) _
      refine XS.aloadN X0.here hx rfl (hb hby d3_16) rfl rfl ?_
      show Steps p.tables e below (s₁.setTop (mkF m 17 #[.val (.ref a1), .val (.int (Int32.ofNat k)), .val (.int p2), .val (.int (p2 &&& (3 : Int32))), .val (.int (Int32.ofNat x))] [(.ref a1)])) _
      refine XS.iload X0.here hx rfl (hb hby d3_17) rfl ?_
      exact kz
    refine OG.step s3 ?_
    obtain ⟨cq4, kq4, q4a, q4b, q4c⟩ := isOf hZ e0 F0_a1
    obtain ⟨_, _, ⟨T4, L4, k4, n4⟩, -, X4, ⟨Lc4, hQ4, l4, y4, z4⟩, st4⟩ := X0.virtualBack hx (y := (⟨"com/example/tidegraph/tidegraph/amd64/SparseSet", "add", "(I)V"⟩ : MethodName)) (z := (⟨"com/example/tidegraph/tidegraph/amd64/SparseSet", "add", "(I)V"⟩ : MethodName)) hown (mvT hZ (hw _ (List.mem_of_getElem? (i := 18) rfl))) (mvT hZ (hw _ (List.mem_of_getElem? (i := 19) rfl))) (notFace_of_selects (args := #[]) (mvT hZ (hw _ (List.mem_of_getElem? (i := 21) rfl)))) (mvT hZ (hw _ (List.mem_of_getElem? (i := 21) rfl))) (mvT hZ (hw _ (List.mem_of_getElem? (i := 20) rfl))) (by decide) (backOf (W := 0) (rm4 l Z a0 hw [] a1 x am ap km kp M P n h0 n0 (Nat.le_trans Z0 K0.1) F0_a1 F1_a1_members F2_a1_places F3_a1_size F4_am F5_ap ne_a1_am ne_a1_ap ne_am_ap g_a1 g_am g_ap I hx4) hZ (hw _ (List.mem_of_getElem? (i := 22) rfl)) (hw _ (List.mem_of_getElem? (i := 2) rfl)) (by decide) (by decide)) q4a q4c (g := (mkF m 19 #[.val (.ref a1), .val (.int (Int32.ofNat k)), .val (.int p2), .val (.int (p2 &&& (3 : Int32))), .val (.int (Int32.ofNat x))] [(.int (Int32.ofNat x)), (.ref a1)])) rfl (by rw [hml]; rfl) (Steps.refl _) (argsL := [(.int (Int32.ofNat x))]) (rest := []) (lenOf pd__I_V rfl) rfl (by show 2 * 0 + _ ≤ _; exact Nat.le_of_eq rfl) (hb hby d3_19) (fun _ _ => ⟨rfl, e0, (by decide : 0 + 0 ≤ _), (by decide : 0 + 0 ≤ _)⟩)
    dsimp only [Pt.U, Pt.locs, Pt.cells, Pt.slots] at X4 l4 y4 z4 st4 hQ4
    subst l4 y4 z4
    obtain ⟨M2_4, P2_4, n2_4, rfl, N4q, Kc4, p4_0, p4_1, p4_2, p4_3, p4_4, p4_5, u4_0, u4_1⟩ := hQ4
    have N4 := Fr.app N0 N4q
    refine OG.step (fun tz kz => st4.trans kz) ?_
    have f5 := F0_a1.keep Kc4
    have K4 := K0.trans Kc4 (allS (Or.inl (List.mem_of_getElem? (i := 0) rfl)) (allS (Or.inl (List.mem_of_getElem? (i := 1) rfl)) (allS (Or.inl (List.mem_of_getElem? (i := 2) rfl)) all0)))
    show OG _ _ _ _ _ _ _ (T4.setTop (mkF m 22 #[.val (.ref a1), .val (.int (Int32.ofNat k)), .val (.int p2), .val (.int (p2 &&& (3 : Int32))), .val (.int (Int32.ofNat x))] []))
    have s11 : ∀ tz, Steps p.tables e below (T4.setTop (mkF m 28 #[.val (.ref a1), .val (.int (Int32.ofNat k)), .val (.int p2), .val (.int (p2 &&& (3 : Int32))), .val (.int (Int32.ofNat x))] [(.int ((Int32.ofNat k) ||| ((1 : Int32) <<< ((Int32.ofNat x) &&& 31))))])) tz → Steps p.tables e below (T4.setTop (mkF m 22 #[.val (.ref a1), .val (.int (Int32.ofNat k)), .val (.int p2), .val (.int (p2 &&& (3 : Int32))), .val (.int (Int32.ofNat x))] [])) tz := by
      intro tz kz
      refine XS.iloadN X4.here hx rfl (hb hby d3_22) rfl ?_
      show Steps p.tables e below (T4.setTop (mkF m 23 #[.val (.ref a1), .val (.int (Int32.ofNat k)), .val (.int p2), .val (.int (p2 &&& (3 : Int32))), .val (.int (Int32.ofNat x))] [(.int (Int32.ofNat k))])) _
      refine XS.iconst X4.here hx rfl (hb hby d3_23) ?_
      show Steps p.tables e below (T4.setTop (mkF m 24 #[.val (.ref a1), .val (.int (Int32.ofNat k)), .val (.int p2), .val (.int (p2 &&& (3 : Int32))), .val (.int (Int32.ofNat x))] [(.int (1 : Int32)), (.int (Int32.ofNat k))])) _
      refine XS.iload X4.here hx rfl (hb hby d3_24) rfl ?_
      show Steps p.tables e below (T4.setTop (mkF m 26 #[.val (.ref a1), .val (.int (Int32.ofNat k)), .val (.int p2), .val (.int (p2 &&& (3 : Int32))), .val (.int (Int32.ofNat x))] [(.int (Int32.ofNat x)), (.int (1 : Int32)), (.int (Int32.ofNat k))])) _
      refine XS.ishl X4.here hx rfl (hb hby d3_26) rfl ?_
      show Steps p.tables e below (T4.setTop (mkF m 27 #[.val (.ref a1), .val (.int (Int32.ofNat k)), .val (.int p2), .val (.int (p2 &&& (3 : Int32))), .val (.int (Int32.ofNat x))] [(.int ((1 : Int32) <<< ((Int32.ofNat x) &&& 31))), (.int (Int32.ofNat k))])) _
      refine XS.ior X4.here hx rfl (hb hby d3_27) rfl ?_
      exact kz
    refine OG.step s11 ?_
    exact OG.retI X4 hx hlk Bd.returns (hb hby d3_28) rfl ⟨M2_4, P2_4, n2_4, (k ||| (1 <<< x)), (congrArg some (congrArg Value.int (own_or hk hx4))), N4, K4, p4_0, p4_1, p4_2, p4_3, p4_4, p4_5, (own_Jadd J hx4 u4_0 u4_1)⟩ (by decide) (by decide)
  · have s12 : ∀ tz, Steps p.tables e below (s₁.setTop (mkF m 31 #[.val (.ref a1), .val (.int (Int32.ofNat k)), .val (.int p2), .val (.int (p2 &&& (3 : Int32))), .val (.int (Int32.ofNat x))] [(.int (2 : Int32)), (.int (p2 &&& (3 : Int32)))])) tz → Steps p.tables e below (s₁.setTop (mkF m 13 #[.val (.ref a1), .val (.int (Int32.ofNat k)), .val (.int p2), .val (.int (p2 &&& (3 : Int32))), .val (.int (Int32.ofNat x))] [(.int (2 : Int32)), (.int (p2 &&& (3 : Int32)))])) tz := by
      intro tz kz
      refine XS.icmpYes X0.here hx rfl (pc0 := 13) (pc' := 29) rfl (hb hby d3_13) rfl (flt hc13).2.1 (by decide) (by decide) ?_
      show Steps p.tables e below (s₁.setTop (mkF m 29 #[.val (.ref a1), .val (.int (Int32.ofNat k)), .val (.int p2), .val (.int (p2 &&& (3 : Int32))), .val (.int (Int32.ofNat x))] [])) _
      refine XS.iloadN X0.here hx rfl (hb hby d3_29) rfl ?_
      show Steps p.tables e below (s₁.setTop (mkF m 30 #[.val (.ref a1), .val (.int (Int32.ofNat k)), .val (.int p2), .val (.int (p2 &&& (3 : Int32))), .val (.int (Int32.ofNat x))] [(.int (p2 &&& (3 : Int32)))])) _
      refine XS.iconst X0.here hx rfl (hb hby d3_30) ?_
      exact kz
    refine OG.step s12 ?_
    by_cases hc31 : (p2 &&& (3 : Int32)) = (2 : Int32)
    · have s13 : ∀ tz, Steps p.tables e below (s₁.setTop (mkF m 37 #[.val (.ref a1), .val (.int (Int32.ofNat k)), .val (.int p2), .val (.int (p2 &&& (3 : Int32))), .val (.int (Int32.ofNat x))] [(.int (Int32.ofNat x)), (.ref a1)])) tz → Steps p.tables e below (s₁.setTop (mkF m 31 #[.val (.ref a1), .val (.int (Int32.ofNat k)), .val (.int p2), .val (.int (p2 &&& (3 : Int32))), .val (.int (Int32.ofNat x))] [(.int (2 : Int32)), (.int (p2 &&& (3 : Int32)))])) tz := by
        intro tz kz
        refine XS.icmpNo X0.here hx rfl (hb hby d3_31) rfl (teq hc31).2 ?_
        show Steps p.tables e below (s₁.setTop (mkF m 34 #[.val (.ref a1), .val (.int (Int32.ofNat k)), .val (.int p2), .val (.int (p2 &&& (3 : Int32))), .val (.int (Int32.ofNat x))] [])) _
        refine XS.aloadN X0.here hx rfl (hb hby d3_34) rfl rfl ?_
        show Steps p.tables e below (s₁.setTop (mkF m 35 #[.val (.ref a1), .val (.int (Int32.ofNat k)), .val (.int p2), .val (.int (p2 &&& (3 : Int32))), .val (.int (Int32.ofNat x))] [(.ref a1)])) _
        refine XS.iload X0.here hx rfl (hb hby d3_35) rfl ?_
        exact kz
      refine OG.step s13 ?_
      obtain ⟨cq14, kq14, q14a, q14b, q14c⟩ := isOf hZ e0 F0_a1
      obtain ⟨_, _, ⟨T14, L14, k14, n14⟩, -, X14, ⟨Lc14, hQ14, l14, y14, z14⟩, st14⟩ := X0.virtualBack hx (y := (⟨"com/example/tidegraph/tidegraph/amd64/SparseSet", "remove", "(I)V"⟩ : MethodName)) (z := (⟨"com/example/tidegraph/tidegraph/amd64/SparseSet", "remove", "(I)V"⟩ : MethodName)) hown (mvT hZ (hw _ (List.mem_of_getElem? (i := 31) rfl))) (mvT hZ (hw _ (List.mem_of_getElem? (i := 32) rfl))) (notFace_of_selects (args := #[]) (mvT hZ (hw _ (List.mem_of_getElem? (i := 34) rfl)))) (mvT hZ (hw _ (List.mem_of_getElem? (i := 34) rfl))) (mvT hZ (hw _ (List.mem_of_getElem? (i := 33) rfl))) (by decide) (backOf (W := 0) (rm6 l Z a0 hw [] a1 x am ap km kp M P n h0 n0 (Nat.le_trans Z0 K0.1) F0_a1 F1_a1_members F2_a1_places F3_a1_size F4_am F5_ap ne_a1_am ne_a1_ap ne_am_ap g_a1 g_am g_ap I hx4) hZ (hw _ (List.mem_of_getElem? (i := 35) rfl)) (hw _ (List.mem_of_getElem? (i := 2) rfl)) (by decide) (by decide)) q14a q14c (g := (mkF m 37 #[.val (.ref a1), .val (.int (Int32.ofNat k)), .val (.int p2), .val (.int (p2 &&& (3 : Int32))), .val (.int (Int32.ofNat x))] [(.int (Int32.ofNat x)), (.ref a1)])) rfl (by rw [hml]; rfl) (Steps.refl _) (argsL := [(.int (Int32.ofNat x))]) (rest := []) (lenOf pd__I_V rfl) rfl (by show 2 * 0 + _ ≤ _; exact Nat.le_of_eq rfl) (hb hby d3_37) (fun _ _ => ⟨rfl, e0, (by decide : 0 + 0 ≤ _), (by decide : 0 + 0 ≤ _)⟩)
      dsimp only [Pt.U, Pt.locs, Pt.cells, Pt.slots] at X14 l14 y14 z14 st14 hQ14
      subst l14 y14 z14
      obtain ⟨M2_14, P2_14, n2_14, rfl, N14q, Kc14, p14_0, p14_1, p14_2, p14_3, p14_4, p14_5, u14_0, u14_1⟩ := hQ14
      have N14 := Fr.app N0 N14q
      refine OG.step (fun tz kz => st14.trans kz) ?_
      have f15 := F0_a1.keep Kc14
      have K14 := K0.trans Kc14 (allS (Or.inl (List.mem_of_getElem? (i := 0) rfl)) (allS (Or.inl (List.mem_of_getElem? (i := 1) rfl)) (allS (Or.inl (List.mem_of_getElem? (i := 2) rfl)) all0)))
      show OG _ _ _ _ _ _ _ (T14.setTop (mkF m 40 #[.val (.ref a1), .val (.int (Int32.ofNat k)), .val (.int p2), .val (.int (p2 &&& (3 : Int32))), .val (.int (Int32.ofNat x))] []))
      have s21 : ∀ tz, Steps p.tables e below (T14.setTop (mkF m 48 #[.val (.ref a1), .val (.int (Int32.ofNat k)), .val (.int p2), .val (.int (p2 &&& (3 : Int32))), .val (.int (Int32.ofNat x))] [(.int ((Int32.ofNat k) &&& (((1 : Int32) <<< ((Int32.ofNat x) &&& 31)) ^^^ (-1 : Int32))))])) tz → Steps p.tables e below (T14.setTop (mkF m 40 #[.val (.ref a1), .val (.int (Int32.ofNat k)), .val (.int p2), .val (.int (p2 &&& (3 : Int32))), .val (.int (Int32.ofNat x))] [])) tz := by
        intro tz kz
        refine XS.iloadN X14.here hx rfl (hb hby d3_40) rfl ?_
        show Steps p.tables e below (T14.setTop (mkF m 41 #[.val (.ref a1), .val (.int (Int32.ofNat k)), .val (.int p2), .val (.int (p2 &&& (3 : Int32))), .val (.int (Int32.ofNat x))] [(.int (Int32.ofNat k))])) _
        refine XS.iconst X14.here hx rfl (hb hby d3_41) ?_
        show Steps p.tables e below (T14.setTop (mkF m 42 #[.val (.ref a1), .val (.int (Int32.ofNat k)), .val (.int p2), .val (.int (p2 &&& (3 : Int32))), .val (.int (Int32.ofNat x))] [(.int (1 : Int32)), (.int (Int32.ofNat k))])) _
        refine XS.iload X14.here hx rfl (hb hby d3_42) rfl ?_
        show Steps p.tables e below (T14.setTop (mkF m 44 #[.val (.ref a1), .val (.int (Int32.ofNat k)), .val (.int p2), .val (.int (p2 &&& (3 : Int32))), .val (.int (Int32.ofNat x))] [(.int (Int32.ofNat x)), (.int (1 : Int32)), (.int (Int32.ofNat k))])) _
        refine XS.ishl X14.here hx rfl (hb hby d3_44) rfl ?_
        show Steps p.tables e below (T14.setTop (mkF m 45 #[.val (.ref a1), .val (.int (Int32.ofNat k)), .val (.int p2), .val (.int (p2 &&& (3 : Int32))), .val (.int (Int32.ofNat x))] [(.int ((1 : Int32) <<< ((Int32.ofNat x) &&& 31))), (.int (Int32.ofNat k))])) _
        refine XS.iconst X14.here hx rfl (hb hby d3_45) ?_
        show Steps p.tables e below (T14.setTop (mkF m 46 #[.val (.ref a1), .val (.int (Int32.ofNat k)), .val (.int p2), .val (.int (p2 &&& (3 : Int32))), .val (.int (Int32.ofNat x))] [(.int (-1 : Int32)), (.int ((1 : Int32) <<< ((Int32.ofNat x) &&& 31))), (.int (Int32.ofNat k))])) _
        refine XS.ixor X14.here hx rfl (hb hby d3_46) rfl ?_
        show Steps p.tables e below (T14.setTop (mkF m 47 #[.val (.ref a1), .val (.int (Int32.ofNat k)), .val (.int p2), .val (.int (p2 &&& (3 : Int32))), .val (.int (Int32.ofNat x))] [(.int (((1 : Int32) <<< ((Int32.ofNat x) &&& 31)) ^^^ (-1 : Int32))), (.int (Int32.ofNat k))])) _
        refine XS.iand X14.here hx rfl (hb hby d3_47) rfl ?_
        exact kz
      refine OG.step s21 ?_
      exact OG.retI X14 hx hlk Bd.returns (hb hby d3_48) rfl ⟨M2_14, P2_14, n2_14, (k &&& (15 - (1 <<< x))), (congrArg some (congrArg Value.int (own_and hk hx4))), N14, K14, p14_0, p14_1, p14_2, p14_3, p14_4, p14_5, (own_Jrem J hx4 u14_0 u14_1)⟩ (by decide) (by decide)
    · have s22 : ∀ tz, Steps p.tables e below (s₁.setTop (mkF m 50 #[.val (.ref a1), .val (.int (Int32.ofNat k)), .val (.int p2), .val (.int (p2 &&& (3 : Int32))), .val (.int (Int32.ofNat x))] [(.ref a1)])) tz → Steps p.tables e below (s₁.setTop (mkF m 31 #[.val (.ref a1), .val (.int (Int32.ofNat k)), .val (.int p2), .val (.int (p2 &&& (3 : Int32))), .val (.int (Int32.ofNat x))] [(.int (2 : Int32)), (.int (p2 &&& (3 : Int32)))])) tz := by
        intro tz kz
        refine XS.icmpYes X0.here hx rfl (pc0 := 31) (pc' := 49) rfl (hb hby d3_31) rfl (feq hc31).2 (by decide) (by decide) ?_
        show Steps p.tables e below (s₁.setTop (mkF m 49 #[.val (.ref a1), .val (.int (Int32.ofNat k)), .val (.int p2), .val (.int (p2 &&& (3 : Int32))), .val (.int (Int32.ofNat x))] [])) _
        refine XS.aloadN X0.here hx rfl (hb hby d3_49) rfl rfl ?_
        exact kz
      refine OG.step s22 ?_
      obtain ⟨cq23, kq23, q23a, q23b, q23c⟩ := isOf hZ e0 F0_a1
      obtain ⟨_, _, ⟨T23, L23, k23, n23⟩, -, X23, ⟨Lc23, hQ23, l23, y23, z23⟩, st23⟩ := X0.virtualBack hx (y := (⟨"com/example/tidegraph/tidegraph/amd64/SparseSet", "clear", "()V"⟩ : MethodName)) (z := (⟨"com/example/tidegraph/tidegraph/amd64/SparseSet", "clear", "()V"⟩ : MethodName)) hown (mvT hZ (hw _ (List.mem_of_getElem? (i := 36) rfl))) (mvT hZ (hw _ (List.mem_of_getElem? (i := 37) rfl))) (notFace_of_selects (args := #[]) (mvT hZ (hw _ (List.mem_of_getElem? (i := 39) rfl)))) (mvT hZ (hw _ (List.mem_of_getElem? (i := 39) rfl))) (mvT hZ (hw _ (List.mem_of_getElem? (i := 38) rfl))) (by decide) (backOf (W := 0) (rm7 l Z a0 hw [] a1 am ap km kp M P n h0 n0 (Nat.le_trans Z0 K0.1) F0_a1 F1_a1_members F2_a1_places F3_a1_size F4_am F5_ap ne_a1_am ne_a1_ap ne_am_ap g_a1 g_am g_ap I) hZ (hw _ (List.mem_of_getElem? (i := 40) rfl)) (hw _ (List.mem_of_getElem? (i := 2) rfl)) (by decide) (by decide)) q23a q23c (g := (mkF m 50 #[.val (.ref a1), .val (.int (Int32.ofNat k)), .val (.int p2), .val (.int (p2 &&& (3 : Int32))), .val (.int (Int32.ofNat x))] [(.ref a1)])) rfl (by rw [hml]; rfl) (Steps.refl _) (argsL := []) (rest := []) (lenOf pd___V rfl) rfl (by show 2 * 0 + _ ≤ _; exact Nat.le_of_eq rfl) (hb hby d3_50) (fun _ _ => ⟨rfl, e0, (by decide : 0 + 0 ≤ _), (by decide : 0 + 0 ≤ _)⟩)
      dsimp only [Pt.U, Pt.locs, Pt.cells, Pt.slots] at X23 l23 y23 z23 st23 hQ23
      subst l23 y23 z23
      obtain ⟨rfl, N23q, Kc23, p23_0, p23_1, p23_2⟩ := hQ23
      have N23 := Fr.app N0 N23q
      refine OG.step (fun tz kz => st23.trans kz) ?_
      have f24 := F0_a1.keep Kc23
      have f28 := F4_am.keep Kc23 (ninS (Ne.symm ne_a1_am) nin0)
      have f29 := F5_ap.keep Kc23 (ninS (Ne.symm ne_a1_ap) nin0)
      have K23 := K0.trans Kc23 (allS (Or.inl (List.mem_of_getElem? (i := 0) rfl)) all0)
      have fz : Fld Z T23.heap a1 "com/example/tidegraph/tidegraph/amd64/SparseSet" "size" "I" (.int (Int32.ofNat 0)) := p23_0
      show OG _ _ _ _ _ _ _ (T23.setTop (mkF m 53 #[.val (.ref a1), .val (.int (Int32.ofNat k)), .val (.int p2), .val (.int (p2 &&& (3 : Int32))), .val (.int (Int32.ofNat x))] []))
      have s30 : ∀ tz, Steps p.tables e below (T23.setTop (mkF m 54 #[.val (.ref a1), .val (.int (Int32.ofNat k)), .val (.int p2), .val (.int (p2 &&& (3 : Int32))), .val (.int (Int32.ofNat x))] [(.int (0 : Int32))])) tz → Steps p.tables e below (T23.setTop (mkF m 53 #[.val (.ref a1), .val (.int (Int32.ofNat k)), .val (.int p2), .val (.int (p2 &&& (3 : Int32))), .val (.int (Int32.ofNat x))] [])) tz := by
        intro tz kz
        refine XS.iconst X23.here hx rfl (hb hby d3_53) ?_
        exact kz
      refine OG.step s30 ?_
      exact OG.retI X23 hx hlk Bd.returns (hb hby d3_54) rfl ⟨M, P, 0, 0, rfl, N23, K23, f24, p23_1, p23_2, fz, f28, f29, (own_Jclr J)⟩ (by decide) (by decide)
theorem ef_0 (m : MethodId) (x0 : Int32) (x1 : Int32) : entryFrame m #[(.int x0), (.int x1)] maxLocals = mkF m 0 #[.val (.int x0), .val (.int x1), .unset, .unset, .unset, .unset] [] := by first | (simp [entryFrame, mkF, argsToLocals, Value.category, maxLocals]; done) | rfl
def Q0 (Z : State) (p0 : Int32) (p1 : Int32) (h0 : Heap) (n0 : Nat) (v : Option Value) (h : Heap) (L : List Loc) : Prop := (v = some (.int (1 : Int32))) ∧ (Fr n0 L)
theorem pd__Lcom_example_tidegraph_tidegraph_amd64_SparseSet_II_I : parseMethodDescriptor "(Lcom/example/tidegraph/tidegraph/amd64/SparseSet;II)I" = some ⟨[(.object "com/example/tidegraph/tidegraph/amd64/SparseSet"), .int, .int], some .int⟩ := by decide +kernel
set_option maxRecDepth 65536 in
set_option maxHeartbeats 40000000 in
theorem rm0 (l : Launch) (Z : State) (a0 : Array Value) (hw : ∀ d ∈ tables_1, d.before a0 Z = true) (ws : List Jvm.Cond) (p0 : Int32) (p1 : Int32) (h0 : Heap) (n0 : Nat) (Z0 : n0 ≤ h0.size) :
    MetFree l x (head1 (Jvm.Cond.code x code maxLocals ret :: ws) room_1) (fun a U => a = #[(.int p0), (.int p1)] ∧ Z.Warmed39 U.vm ∧ U.heap = h0) (fun _ _ _ _ _ => True) (fun _ U o U' => ∃ v L, o = .returned v ∧ Q0 Z p0 p1 h0 n0 v U'.heap L ∧ FrameEnd U o U' L room_1.cells room_1.slots) := by
  refine MetFree.of_bodySF (plainFor_of_name pn_com_example_tidegraph_tidegraph_amd64_SparseSetContainsPinLaw) hisR ?_
  intro p e s m args below meth c s₁ Bd hml0 hP hK
  obtain ⟨rfl, hZ, hh⟩ := hP
  have hx := Bd.exec
  have hby := Bd.bytes
  have hlk := Bd.notSynchronized
  have hml : c.maxLocals = 6 := hml0
  have hown : s.vm.findClass "com/example/tidegraph/tidegraph/amd64/SparseSetContainsPinLaw" = some m.cls := findClass_of_methodNamed Bd.named
  have hnm := (name_of_methodNamed Bd.named Bd.method).1
  have X0 : Stand p l e room_1 s m #[(.int p0), (.int p1)] below meth c s₁ [] 0 0 := Stand.of_body Bd
  have e0 : s₁.heap = h0 := by rw [← hh, Bd.state]; rfl
  have N0 := Fr.nil n0
  have K0 : Keep h0 h0 [] := Keep.refl _ _
  refine (?_ : OG p e below s (Q0 Z p0 p1 h0 n0) room_1.cells room_1.slots _)
  rw [ef_0]
  obtain ⟨T1, h1, X1, e1, E1, A1, D1, -, st1⟩ := newO X0 hx hZ hown (hw _ (List.mem_of_getElem? (i := 0) rfl)) (hw _ (List.mem_of_getElem? (i := 1) rfl)) (hw _ (List.mem_of_getElem? (i := 2) rfl)) e0 (g := (mkF m 0 #[.val (.int p0), .val (.int p1), .unset, .unset, .unset, .unset] [])) rfl (hb hby at_0) (by decide) (by decide)
  obtain ⟨b1, g1⟩ : ∃ z, z = h0.size := ⟨_, rfl⟩
  rw [← g1] at A1 D1 st1
  have sz1 : h0.size ≤ b1 := Nat.le_trans K0.1 (Nat.le_of_eq g1.symm)
  have ge1 : n0 ≤ b1 := Nat.le_trans Z0 sz1
  refine OG.step st1 ?_
  have F1_members : Fld Z h1 b1 "com/example/tidegraph/tidegraph/amd64/SparseSet" "members" "[I" .null := D1 (Or.inr (hw _ (List.mem_of_getElem? (i := 11) rfl))) (ty := (.array .int)) (by decide)
  have F1_places : Fld Z h1 b1 "com/example/tidegraph/tidegraph/amd64/SparseSet" "places" "[I" .null := D1 (Or.inr (hw _ (List.mem_of_getElem? (i := 13) rfl))) (ty := (.array .int)) (by decide)
  have F1_size : Fld Z h1 b1 "com/example/tidegraph/tidegraph/amd64/SparseSet" "size" "I" (.int (0 : Int32)) := D1 (Or.inl (hw _ (List.mem_of_getElem? (i := 29) rfl))) (ty := .int) (by decide)
  have K1 := K0.ext E1
  show OG _ _ _ _ _ _ _ (T1.setTop (mkF m 3 #[.val (.int p0), .val (.int p1), .unset, .unset, .unset, .unset] [(.ref b1)]))
  have s2 : ∀ tz, Steps p.tables e below (T1.setTop (mkF m 5 #[.val (.int p0), .val (.int p1), .unset, .unset, .unset, .unset] [(.int (4 : Int32)), (.ref b1), (.ref b1)])) tz → Steps p.tables e below (T1.setTop (mkF m 3 #[.val (.int p0), .val (.int p1), .unset, .unset, .unset, .unset] [(.ref b1)])) tz := by
    intro tz kz
    refine XS.dup X1.here hx rfl (hb hby at_3) rfl rfl ?_
    show Steps p.tables e below (T1.setTop (mkF m 4 #[.val (.int p0), .val (.int p1), .unset, .unset, .unset, .unset] [(.ref b1), (.ref b1)])) _
    refine XS.iconst X1.here hx rfl (hb hby at_4) ?_
    exact kz
  refine OG.step s2 ?_
  obtain ⟨_, _, ⟨T3, L3, k3, n3⟩, -, X3, ⟨Lc3, hQ3, l3, y3, z3⟩, st3⟩ := X1.specialBack hx (y := (⟨"com/example/tidegraph/tidegraph/amd64/SparseSet", "<init>", "(I)V"⟩ : MethodName)) rfl hown (mvT hZ (hw _ (List.mem_of_getElem? (i := 3) rfl))) (mvT hZ (hw _ (List.mem_of_getElem? (i := 4) rfl))) (mvT hZ (hw _ (List.mem_of_getElem? (i := 5) rfl))) (by decide) (backOf (W := 1) (rm1 l Z a0 hw [] b1 .null .null h1 n0 (Nat.le_trans Z0 K1.1) A1 F1_members F1_places F1_size ge1) hZ (hw _ (List.mem_of_getElem? (i := 5) rfl)) (hw _ (List.mem_of_getElem? (i := 2) rfl)) (by decide) (by decide)) (g := (mkF m 5 #[.val (.int p0), .val (.int p1), .unset, .unset, .unset, .unset] [(.int (4 : Int32)), (.ref b1), (.ref b1)])) rfl (by rw [hml]; rfl) (Steps.refl _) (a := b1) (argsL := [(.int (4 : Int32))]) (rest := [(.ref b1)]) (lenOf pd__I_V rfl) rfl (by show 2 * 0 + _ ≤ _; exact Nat.le_of_eq rfl) (hb hby at_5) (fun _ _ => ⟨rfl, e1, (by decide : 1 + 2 ≤ _), (by decide : 3 + 8 ≤ _)⟩)
  dsimp only [Pt.U, Pt.locs, Pt.cells, Pt.slots] at X3 l3 y3 z3 st3 hQ3
  subst l3 y3 z3
  obtain ⟨am_3, ap_3, km_3, kp_3, rfl, N3q, Kc3, p3_0, p3_1, p3_2, p3_3, p3_4, u3_0, u3_1, u3_2⟩ := hQ3
  have N3 := Fr.app N0 N3q
  refine OG.step (fun tz kz => st3.trans kz) ?_
  have f4 := A1.keep Kc3
  have K3 := K1.trans Kc3 (allS (Or.inr sz1) all0)
  have sz3_am_3 : h0.size ≤ am_3 := Nat.le_trans K1.1 u3_0
  have ge3_am_3 : n0 ≤ am_3 := Nat.le_trans Z0 sz3_am_3
  have ne3_b1_am_3 : b1 ≠ am_3 := Nat.ne_of_lt (Nat.lt_of_lt_of_le A1.lt u3_0)
  have sz3_ap_3 : h0.size ≤ ap_3 := Nat.le_trans K1.1 u3_1
  have ge3_ap_3 : n0 ≤ ap_3 := Nat.le_trans Z0 sz3_ap_3
  have ne3_b1_ap_3 : b1 ≠ ap_3 := Nat.ne_of_lt (Nat.lt_of_lt_of_le A1.lt u3_1)
  have p3_3z : Arv Z T3.heap am_3 km_3 .int (4 : Int32) (own_vs own_z) (.int (0 : Int32)) := p3_3
  have p3_4z : Arv Z T3.heap ap_3 kp_3 .int (4 : Int32) (own_vs own_z) (.int (0 : Int32)) := p3_4
  have fz : Fld Z T3.heap b1 "com/example/tidegraph/tidegraph/amd64/SparseSet" "size" "I" (.int (Int32.ofNat 0)) := p3_2
  show OG _ _ _ _ _ _ _ (T3.setTop (mkF m 8 #[.val (.int p0), .val (.int p1), .unset, .unset, .unset, .unset] [(.ref b1)]))
  have s8 : ∀ tz, Steps p.tables e below (T3.setTop (mkF m 11 #[.val (.int p0), .val (.int p1), .val (.ref b1), .val (.int (0 : Int32)), .unset, .unset] [])) tz → Steps p.tables e below (T3.setTop (mkF m 8 #[.val (.int p0), .val (.int p1), .unset, .unset, .unset, .unset] [(.ref b1)])) tz := by
    intro tz kz
    refine XS.astoreN X3.here hx rfl (hb hby at_8) rfl rfl (l' := #[.val (.int p0), .val (.int p1), .val (.ref b1), .unset, .unset, .unset]) rfl ?_
    show Steps p.tables e below (T3.setTop (mkF m 9 #[.val (.int p0), .val (.int p1), .val (.ref b1), .unset, .unset, .unset] [])) _
    refine XS.iconst X3.here hx rfl (hb hby at_9) ?_
    show Steps p.tables e below (T3.setTop (mkF m 10 #[.val (.int p0), .val (.int p1), .val (.ref b1), .unset, .unset, .unset] [(.int (0 : Int32))])) _
    refine XS.istoreN X3.here hx rfl (hb hby at_10) rfl (l' := #[.val (.int p0), .val (.int p1), .val (.ref b1), .val (.int (0 : Int32)), .unset, .unset]) rfl ?_
    exact kz
  refine OG.step s8 ?_
  show OG _ _ _ _ _ _ _ (T3.setTop (mkF m 11 #[.val (.int p0), .val (.int p1), .val (.ref b1), .val (.int (Int32.ofNat 0)), .unset, .unset] []))
  have J0 := own_J0
  have s9 : ∀ tz, Steps p.tables e below (T3.setTop (mkF m 14 #[.val (.int p0), .val (.int p1), .val (.ref b1), .val (.int (Int32.ofNat 0)), .unset, .unset] [(.int p0), (.int (Int32.ofNat 0)), (.ref b1)])) tz → Steps p.tables e below (T3.setTop (mkF m 11 #[.val (.int p0), .val (.int p1), .val (.ref b1), .val (.int (Int32.ofNat 0)), .unset, .unset] [])) tz := by
    intro tz kz
    refine XS.aloadN X3.here hx rfl (hb hby at_11) rfl rfl ?_
    show Steps p.tables e below (T3.setTop (mkF m 12 #[.val (.int p0), .val (.int p1), .val (.ref b1), .val (.int (Int32.ofNat 0)), .unset, .unset] [(.ref b1)])) _
    refine XS.iloadN X3.here hx rfl (hb hby at_12) rfl ?_
    show Steps p.tables e below (T3.setTop (mkF m 13 #[.val (.int p0), .val (.int p1), .val (.ref b1), .val (.int (Int32.ofNat 0)), .unset, .unset] [(.int (Int32.ofNat 0)), (.ref b1)])) _
    refine XS.iloadN X3.here hx rfl (hb hby at_13) rfl ?_
    exact kz
  refine OG.step s9 ?_
  obtain ⟨_, _, ⟨T10, L10, k10, n10⟩, -, X10, ⟨Lc10, hQ10, l10, y10, z10⟩, st10⟩ := Jvm.LawKit.callS X3 hx (y := (⟨"com/example/tidegraph/tidegraph/amd64/SparseSetContainsPinLaw", "step", "(Lcom/example/tidegraph/tidegraph/amd64/SparseSet;II)I"⟩ : MethodName)) hown (mvT hZ (hw _ (List.mem_of_getElem? (i := 14) rfl))) (mvT hZ (hw _ (List.mem_of_getElem? (i := 15) rfl))) (mvT hZ (hw _ (List.mem_of_getElem? (i := 16) rfl))) (mvT hZ (hw _ (List.mem_of_getElem? (i := 17) rfl))) (by decide) (backOf (W := 0) (rm3 l Z a0 hw [] b1 p0 am_3 ap_3 km_3 kp_3 own_z own_z 0 0 T3.heap n0 (Nat.le_trans Z0 K3.1) f4 p3_0 p3_1 fz p3_3z p3_4z ne3_b1_am_3 ne3_b1_ap_3 u3_2 ge1 ge3_am_3 ge3_ap_3 J0) hZ (hw _ (List.mem_of_getElem? (i := 17) rfl)) (hw _ (List.mem_of_getElem? (i := 16) rfl)) (by decide) (by decide)) (g := (mkF m 14 #[.val (.int p0), .val (.int p1), .val (.ref b1), .val (.int (Int32.ofNat 0)), .unset, .unset] [(.int p0), (.int (Int32.ofNat 0)), (.ref b1)])) rfl (by rw [hml]; rfl) (argsL := [(.ref b1), (.int (Int32.ofNat 0)), (.int p0)]) (rest := []) (lenOf pd__Lcom_example_tidegraph_tidegraph_amd64_SparseSet_II_I rfl) rfl (by show 2 * 0 + _ ≤ _; exact Nat.le_of_eq rfl) (hb hby at_14) (fun _ _ => ⟨rfl, rfl, (by decide : 3 + 0 ≤ _), (by decide : 11 + 0 ≤ _)⟩)
  dsimp only [Pt.U, Pt.locs, Pt.cells, Pt.slots] at X10 l10 y10 z10 st10 hQ10
  subst l10 y10 z10
  obtain ⟨M2_10, P2_10, n2_10, k2_10, rfl, N10q, Kc10, p10_0, p10_1, p10_2, p10_3, p10_4, p10_5, u10_0⟩ := hQ10
  have N10 := Fr.app N3 N10q
  refine OG.step st10 ?_
  have f11 := f4.keep Kc10
  have K10 := K3.trans Kc10 (allS (Or.inr sz1) (allS (Or.inr sz3_am_3) (allS (Or.inr sz3_ap_3) all0)))
  show OG _ _ _ _ _ _ _ (T10.setTop (mkF m 17 #[.val (.int p0), .val (.int p1), .val (.ref b1), .val (.int (Int32.ofNat 0)), .unset, .unset] [(.int (Int32.ofNat k2_10))]))
  have s17 : ∀ tz, Steps p.tables e below (T10.setTop (mkF m 23 #[.val (.int p0), .val (.int p1), .val (.ref b1), .val (.int (Int32.ofNat k2_10)), .unset, .unset] [(.int ((p0.toUInt32 >>> ((4 : Int32) &&& 31).toUInt32).toInt32)), (.int (Int32.ofNat k2_10)), (.ref b1)])) tz → Steps p.tables e below (T10.setTop (mkF m 17 #[.val (.int p0), .val (.int p1), .val (.ref b1), .val (.int (Int32.ofNat 0)), .unset, .unset] [(.int (Int32.ofNat k2_10))])) tz := by
    intro tz kz
    refine XS.istoreN X10.here hx rfl (hb hby at_17) rfl (l' := #[.val (.int p0), .val (.int p1), .val (.ref b1), .val (.int (Int32.ofNat k2_10)), .unset, .unset]) rfl ?_
    show Steps p.tables e below (T10.setTop (mkF m 18 #[.val (.int p0), .val (.int p1), .val (.ref b1), .val (.int (Int32.ofNat k2_10)), .unset, .unset] [])) _
    refine XS.aloadN X10.here hx rfl (hb hby at_18) rfl rfl ?_
    show Steps p.tables e below (T10.setTop (mkF m 19 #[.val (.int p0), .val (.int p1), .val (.ref b1), .val (.int (Int32.ofNat k2_10)), .unset, .unset] [(.ref b1)])) _
    refine XS.iloadN X10.here hx rfl (hb hby at_19) rfl ?_
    show Steps p.tables e below (T10.setTop (mkF m 20 #[.val (.int p0), .val (.int p1), .val (.ref b1), .val (.int (Int32.ofNat k2_10)), .unset, .unset] [(.int (Int32.ofNat k2_10)), (.ref b1)])) _
    refine XS.iloadN X10.here hx rfl (hb hby at_20) rfl ?_
    show Steps p.tables e below (T10.setTop (mkF m 21 #[.val (.int p0), .val (.int p1), .val (.ref b1), .val (.int (Int32.ofNat k2_10)), .unset, .unset] [(.int p0), (.int (Int32.ofNat k2_10)), (.ref b1)])) _
    refine XS.iconst X10.here hx rfl (hb hby at_21) ?_
    show Steps p.tables e below (T10.setTop (mkF m 22 #[.val (.int p0), .val (.int p1), .val (.ref b1), .val (.int (Int32.ofNat k2_10)), .unset, .unset] [(.int (4 : Int32)), (.int p0), (.int (Int32.ofNat k2_10)), (.ref b1)])) _
    refine XS.iushr X10.here hx rfl (hb hby at_22) rfl ?_
    exact kz
  refine OG.step s17 ?_
  obtain ⟨_, _, ⟨T18, L18, k18, n18⟩, -, X18, ⟨Lc18, hQ18, l18, y18, z18⟩, st18⟩ := Jvm.LawKit.callS X10 hx (y := (⟨"com/example/tidegraph/tidegraph/amd64/SparseSetContainsPinLaw", "step", "(Lcom/example/tidegraph/tidegraph/amd64/SparseSet;II)I"⟩ : MethodName)) hown (mvT hZ (hw _ (List.mem_of_getElem? (i := 14) rfl))) (mvT hZ (hw _ (List.mem_of_getElem? (i := 15) rfl))) (mvT hZ (hw _ (List.mem_of_getElem? (i := 16) rfl))) (mvT hZ (hw _ (List.mem_of_getElem? (i := 17) rfl))) (by decide) (backOf (W := 0) (rm3 l Z a0 hw [] b1 ((p0.toUInt32 >>> ((4 : Int32) &&& 31).toUInt32).toInt32) am_3 ap_3 km_3 kp_3 M2_10 P2_10 n2_10 k2_10 T10.heap n0 (Nat.le_trans Z0 K10.1) p10_0 p10_1 p10_2 p10_3 p10_4 p10_5 ne3_b1_am_3 ne3_b1_ap_3 u3_2 ge1 ge3_am_3 ge3_ap_3 u10_0) hZ (hw _ (List.mem_of_getElem? (i := 17) rfl)) (hw _ (List.mem_of_getElem? (i := 16) rfl)) (by decide) (by decide)) (g := (mkF m 23 #[.val (.int p0), .val (.int p1), .val (.ref b1), .val (.int (Int32.ofNat k2_10)), .unset, .unset] [(.int ((p0.toUInt32 >>> ((4 : Int32) &&& 31).toUInt32).toInt32)), (.int (Int32.ofNat k2_10)), (.ref b1)])) rfl (by rw [hml]; rfl) (argsL := [(.ref b1), (.int (Int32.ofNat k2_10)), (.int ((p0.toUInt32 >>> ((4 : Int32) &&& 31).toUInt32).toInt32))]) (rest := []) (lenOf pd__Lcom_example_tidegraph_tidegraph_amd64_SparseSet_II_I rfl) rfl (by show 2 * 0 + _ ≤ _; exact Nat.le_of_eq rfl) (hb hby at_23) (fun _ _ => ⟨rfl, rfl, (by decide : 3 + 0 ≤ _), (by decide : 11 + 0 ≤ _)⟩)
  dsimp only [Pt.U, Pt.locs, Pt.cells, Pt.slots] at X18 l18 y18 z18 st18 hQ18
  subst l18 y18 z18
  obtain ⟨M2_18, P2_18, n2_18, k2_18, rfl, N18q, Kc18, p18_0, p18_1, p18_2, p18_3, p18_4, p18_5, u18_0⟩ := hQ18
  have N18 := Fr.app N10 N18q
  refine OG.step st18 ?_
  have f19 := p10_0.keep Kc18
  have K18 := K10.trans Kc18 (allS (Or.inr sz1) (allS (Or.inr sz3_am_3) (allS (Or.inr sz3_ap_3) all0)))
  show OG _ _ _ _ _ _ _ (T18.setTop (mkF m 26 #[.val (.int p0), .val (.int p1), .val (.ref b1), .val (.int (Int32.ofNat k2_10)), .unset, .unset] [(.int (Int32.ofNat k2_18))]))
  have s25 : ∀ tz, Steps p.tables e below (T18.setTop (mkF m 33 #[.val (.int p0), .val (.int p1), .val (.ref b1), .val (.int (Int32.ofNat k2_18)), .unset, .unset] [(.int ((p0.toUInt32 >>> ((8 : Int32) &&& 31).toUInt32).toInt32)), (.int (Int32.ofNat k2_18)), (.ref b1)])) tz → Steps p.tables e below (T18.setTop (mkF m 26 #[.val (.int p0), .val (.int p1), .val (.ref b1), .val (.int (Int32.ofNat k2_10)), .unset, .unset] [(.int (Int32.ofNat k2_18))])) tz := by
    intro tz kz
    refine XS.istoreN X18.here hx rfl (hb hby at_26) rfl (l' := #[.val (.int p0), .val (.int p1), .val (.ref b1), .val (.int (Int32.ofNat k2_18)), .unset, .unset]) rfl ?_
    show Steps p.tables e below (T18.setTop (mkF m 27 #[.val (.int p0), .val (.int p1), .val (.ref b1), .val (.int (Int32.ofNat k2_18)), .unset, .unset] [])) _
    refine XS.aloadN X18.here hx rfl (hb hby at_27) rfl rfl ?_
    show Steps p.tables e below (T18.setTop (mkF m 28 #[.val (.int p0), .val (.int p1), .val (.ref b1), .val (.int (Int32.ofNat k2_18)), .unset, .unset] [(.ref b1)])) _
    refine XS.iloadN X18.here hx rfl (hb hby at_28) rfl ?_
    show Steps p.tables e below (T18.setTop (mkF m 29 #[.val (.int p0), .val (.int p1), .val (.ref b1), .val (.int (Int32.ofNat k2_18)), .unset, .unset] [(.int (Int32.ofNat k2_18)), (.ref b1)])) _
    refine XS.iloadN X18.here hx rfl (hb hby at_29) rfl ?_
    show Steps p.tables e below (T18.setTop (mkF m 30 #[.val (.int p0), .val (.int p1), .val (.ref b1), .val (.int (Int32.ofNat k2_18)), .unset, .unset] [(.int p0), (.int (Int32.ofNat k2_18)), (.ref b1)])) _
    refine XS.bipush X18.here hx rfl (hb hby at_30) ?_
    show Steps p.tables e below (T18.setTop (mkF m 32 #[.val (.int p0), .val (.int p1), .val (.ref b1), .val (.int (Int32.ofNat k2_18)), .unset, .unset] [(.int (8 : Int32)), (.int p0), (.int (Int32.ofNat k2_18)), (.ref b1)])) _
    refine XS.iushr X18.here hx rfl (hb hby at_32) rfl ?_
    exact kz
  refine OG.step s25 ?_
  obtain ⟨_, _, ⟨T26, L26, k26, n26⟩, -, X26, ⟨Lc26, hQ26, l26, y26, z26⟩, st26⟩ := Jvm.LawKit.callS X18 hx (y := (⟨"com/example/tidegraph/tidegraph/amd64/SparseSetContainsPinLaw", "step", "(Lcom/example/tidegraph/tidegraph/amd64/SparseSet;II)I"⟩ : MethodName)) hown (mvT hZ (hw _ (List.mem_of_getElem? (i := 14) rfl))) (mvT hZ (hw _ (List.mem_of_getElem? (i := 15) rfl))) (mvT hZ (hw _ (List.mem_of_getElem? (i := 16) rfl))) (mvT hZ (hw _ (List.mem_of_getElem? (i := 17) rfl))) (by decide) (backOf (W := 0) (rm3 l Z a0 hw [] b1 ((p0.toUInt32 >>> ((8 : Int32) &&& 31).toUInt32).toInt32) am_3 ap_3 km_3 kp_3 M2_18 P2_18 n2_18 k2_18 T18.heap n0 (Nat.le_trans Z0 K18.1) p18_0 p18_1 p18_2 p18_3 p18_4 p18_5 ne3_b1_am_3 ne3_b1_ap_3 u3_2 ge1 ge3_am_3 ge3_ap_3 u18_0) hZ (hw _ (List.mem_of_getElem? (i := 17) rfl)) (hw _ (List.mem_of_getElem? (i := 16) rfl)) (by decide) (by decide)) (g := (mkF m 33 #[.val (.int p0), .val (.int p1), .val (.ref b1), .val (.int (Int32.ofNat k2_18)), .unset, .unset] [(.int ((p0.toUInt32 >>> ((8 : Int32) &&& 31).toUInt32).toInt32)), (.int (Int32.ofNat k2_18)), (.ref b1)])) rfl (by rw [hml]; rfl) (argsL := [(.ref b1), (.int (Int32.ofNat k2_18)), (.int ((p0.toUInt32 >>> ((8 : Int32) &&& 31).toUInt32).toInt32))]) (rest := []) (lenOf pd__Lcom_example_tidegraph_tidegraph_amd64_SparseSet_II_I rfl) rfl (by show 2 * 0 + _ ≤ _; exact Nat.le_of_eq rfl) (hb hby at_33) (fun _ _ => ⟨rfl, rfl, (by decide : 3 + 0 ≤ _), (by decide : 11 + 0 ≤ _)⟩)
  dsimp only [Pt.U, Pt.locs, Pt.cells, Pt.slots] at X26 l26 y26 z26 st26 hQ26
  subst l26 y26 z26
  obtain ⟨M2_26, P2_26, n2_26, k2_26, rfl, N26q, Kc26, p26_0, p26_1, p26_2, p26_3, p26_4, p26_5, u26_0⟩ := hQ26
  have N26 := Fr.app N18 N26q
  refine OG.step st26 ?_
  have f27 := p18_0.keep Kc26
  have K26 := K18.trans Kc26 (allS (Or.inr sz1) (allS (Or.inr sz3_am_3) (allS (Or.inr sz3_ap_3) all0)))
  show OG _ _ _ _ _ _ _ (T26.setTop (mkF m 36 #[.val (.int p0), .val (.int p1), .val (.ref b1), .val (.int (Int32.ofNat k2_18)), .unset, .unset] [(.int (Int32.ofNat k2_26))]))
  have s33 : ∀ tz, Steps p.tables e below (T26.setTop (mkF m 43 #[.val (.int p0), .val (.int p1), .val (.ref b1), .val (.int (Int32.ofNat k2_26)), .unset, .unset] [(.int ((p0.toUInt32 >>> ((12 : Int32) &&& 31).toUInt32).toInt32)), (.int (Int32.ofNat k2_26)), (.ref b1)])) tz → Steps p.tables e below (T26.setTop (mkF m 36 #[.val (.int p0), .val (.int p1), .val (.ref b1), .val (.int (Int32.ofNat k2_18)), .unset, .unset] [(.int (Int32.ofNat k2_26))])) tz := by
    intro tz kz
    refine XS.istoreN X26.here hx rfl (hb hby at_36) rfl (l' := #[.val (.int p0), .val (.int p1), .val (.ref b1), .val (.int (Int32.ofNat k2_26)), .unset, .unset]) rfl ?_
    show Steps p.tables e below (T26.setTop (mkF m 37 #[.val (.int p0), .val (.int p1), .val (.ref b1), .val (.int (Int32.ofNat k2_26)), .unset, .unset] [])) _
    refine XS.aloadN X26.here hx rfl (hb hby at_37) rfl rfl ?_
    show Steps p.tables e below (T26.setTop (mkF m 38 #[.val (.int p0), .val (.int p1), .val (.ref b1), .val (.int (Int32.ofNat k2_26)), .unset, .unset] [(.ref b1)])) _
    refine XS.iloadN X26.here hx rfl (hb hby at_38) rfl ?_
    show Steps p.tables e below (T26.setTop (mkF m 39 #[.val (.int p0), .val (.int p1), .val (.ref b1), .val (.int (Int32.ofNat k2_26)), .unset, .unset] [(.int (Int32.ofNat k2_26)), (.ref b1)])) _
    refine XS.iloadN X26.here hx rfl (hb hby at_39) rfl ?_
    show Steps p.tables e below (T26.setTop (mkF m 40 #[.val (.int p0), .val (.int p1), .val (.ref b1), .val (.int (Int32.ofNat k2_26)), .unset, .unset] [(.int p0), (.int (Int32.ofNat k2_26)), (.ref b1)])) _
    refine XS.bipush X26.here hx rfl (hb hby at_40) ?_
    show Steps p.tables e below (T26.setTop (mkF m 42 #[.val (.int p0), .val (.int p1), .val (.ref b1), .val (.int (Int32.ofNat k2_26)), .unset, .unset] [(.int (12 : Int32)), (.int p0), (.int (Int32.ofNat k2_26)), (.ref b1)])) _
    refine XS.iushr X26.here hx rfl (hb hby at_42) rfl ?_
    exact kz
  refine OG.step s33 ?_
  obtain ⟨_, _, ⟨T34, L34, k34, n34⟩, -, X34, ⟨Lc34, hQ34, l34, y34, z34⟩, st34⟩ := Jvm.LawKit.callS X26 hx (y := (⟨"com/example/tidegraph/tidegraph/amd64/SparseSetContainsPinLaw", "step", "(Lcom/example/tidegraph/tidegraph/amd64/SparseSet;II)I"⟩ : MethodName)) hown (mvT hZ (hw _ (List.mem_of_getElem? (i := 14) rfl))) (mvT hZ (hw _ (List.mem_of_getElem? (i := 15) rfl))) (mvT hZ (hw _ (List.mem_of_getElem? (i := 16) rfl))) (mvT hZ (hw _ (List.mem_of_getElem? (i := 17) rfl))) (by decide) (backOf (W := 0) (rm3 l Z a0 hw [] b1 ((p0.toUInt32 >>> ((12 : Int32) &&& 31).toUInt32).toInt32) am_3 ap_3 km_3 kp_3 M2_26 P2_26 n2_26 k2_26 T26.heap n0 (Nat.le_trans Z0 K26.1) p26_0 p26_1 p26_2 p26_3 p26_4 p26_5 ne3_b1_am_3 ne3_b1_ap_3 u3_2 ge1 ge3_am_3 ge3_ap_3 u26_0) hZ (hw _ (List.mem_of_getElem? (i := 17) rfl)) (hw _ (List.mem_of_getElem? (i := 16) rfl)) (by decide) (by decide)) (g := (mkF m 43 #[.val (.int p0), .val (.int p1), .val (.ref b1), .val (.int (Int32.ofNat k2_26)), .unset, .unset] [(.int ((p0.toUInt32 >>> ((12 : Int32) &&& 31).toUInt32).toInt32)), (.int (Int32.ofNat k2_26)), (.ref b1)])) rfl (by rw [hml]; rfl) (argsL := [(.ref b1), (.int (Int32.ofNat k2_26)), (.int ((p0.toUInt32 >>> ((12 : Int32) &&& 31).toUInt32).toInt32))]) (rest := []) (lenOf pd__Lcom_example_tidegraph_tidegraph_amd64_SparseSet_II_I rfl) rfl (by show 2 * 0 + _ ≤ _; exact Nat.le_of_eq rfl) (hb hby at_43) (fun _ _ => ⟨rfl, rfl, (by decide : 3 + 0 ≤ _), (by decide : 11 + 0 ≤ _)⟩)
  dsimp only [Pt.U, Pt.locs, Pt.cells, Pt.slots] at X34 l34 y34 z34 st34 hQ34
  subst l34 y34 z34
  obtain ⟨M2_34, P2_34, n2_34, k2_34, rfl, N34q, Kc34, p34_0, p34_1, p34_2, p34_3, p34_4, p34_5, u34_0⟩ := hQ34
  have N34 := Fr.app N26 N34q
  refine OG.step st34 ?_
  have f35 := p26_0.keep Kc34
  have K34 := K26.trans Kc34 (allS (Or.inr sz1) (allS (Or.inr sz3_am_3) (allS (Or.inr sz3_ap_3) all0)))
  show OG _ _ _ _ _ _ _ (T34.setTop (mkF m 46 #[.val (.int p0), .val (.int p1), .val (.ref b1), .val (.int (Int32.ofNat k2_26)), .unset, .unset] [(.int (Int32.ofNat k2_34))]))
  have s41 : ∀ tz, Steps p.tables e below (T34.setTop (mkF m 53 #[.val (.int p0), .val (.int p1), .val (.ref b1), .val (.int (Int32.ofNat k2_34)), .unset, .unset] [(.int ((p0.toUInt32 >>> ((16 : Int32) &&& 31).toUInt32).toInt32)), (.int (Int32.ofNat k2_34)), (.ref b1)])) tz → Steps p.tables e below (T34.setTop (mkF m 46 #[.val (.int p0), .val (.int p1), .val (.ref b1), .val (.int (Int32.ofNat k2_26)), .unset, .unset] [(.int (Int32.ofNat k2_34))])) tz := by
    intro tz kz
    refine XS.istoreN X34.here hx rfl (hb hby at_46) rfl (l' := #[.val (.int p0), .val (.int p1), .val (.ref b1), .val (.int (Int32.ofNat k2_34)), .unset, .unset]) rfl ?_
    show Steps p.tables e below (T34.setTop (mkF m 47 #[.val (.int p0), .val (.int p1), .val (.ref b1), .val (.int (Int32.ofNat k2_34)), .unset, .unset] [])) _
    refine XS.aloadN X34.here hx rfl (hb hby at_47) rfl rfl ?_
    show Steps p.tables e below (T34.setTop (mkF m 48 #[.val (.int p0), .val (.int p1), .val (.ref b1), .val (.int (Int32.ofNat k2_34)), .unset, .unset] [(.ref b1)])) _
    refine XS.iloadN X34.here hx rfl (hb hby at_48) rfl ?_
    show Steps p.tables e below (T34.setTop (mkF m 49 #[.val (.int p0), .val (.int p1), .val (.ref b1), .val (.int (Int32.ofNat k2_34)), .unset, .unset] [(.int (Int32.ofNat k2_34)), (.ref b1)])) _
    refine XS.iloadN X34.here hx rfl (hb hby at_49) rfl ?_
    show Steps p.tables e below (T34.setTop (mkF m 50 #[.val (.int p0), .val (.int p1), .val (.ref b1), .val (.int (Int32.ofNat k2_34)), .unset, .unset] [(.int p0), (.int (Int32.ofNat k2_34)), (.ref b1)])) _
    refine XS.bipush X34.here hx rfl (hb hby at_50) ?_
    show Steps p.tables e below (T34.setTop (mkF m 52 #[.val (.int p0), .val (.int p1), .val (.ref b1), .val (.int (Int32.ofNat k2_34)), .unset, .unset] [(.int (16 : Int32)), (.int p0), (.int (Int32.ofNat k2_34)), (.ref b1)])) _
    refine XS.iushr X34.here hx rfl (hb hby at_52) rfl ?_
    exact kz
  refine OG.step s41 ?_
  obtain ⟨_, _, ⟨T42, L42, k42, n42⟩, -, X42, ⟨Lc42, hQ42, l42, y42, z42⟩, st42⟩ := Jvm.LawKit.callS X34 hx (y := (⟨"com/example/tidegraph/tidegraph/amd64/SparseSetContainsPinLaw", "step", "(Lcom/example/tidegraph/tidegraph/amd64/SparseSet;II)I"⟩ : MethodName)) hown (mvT hZ (hw _ (List.mem_of_getElem? (i := 14) rfl))) (mvT hZ (hw _ (List.mem_of_getElem? (i := 15) rfl))) (mvT hZ (hw _ (List.mem_of_getElem? (i := 16) rfl))) (mvT hZ (hw _ (List.mem_of_getElem? (i := 17) rfl))) (by decide) (backOf (W := 0) (rm3 l Z a0 hw [] b1 ((p0.toUInt32 >>> ((16 : Int32) &&& 31).toUInt32).toInt32) am_3 ap_3 km_3 kp_3 M2_34 P2_34 n2_34 k2_34 T34.heap n0 (Nat.le_trans Z0 K34.1) p34_0 p34_1 p34_2 p34_3 p34_4 p34_5 ne3_b1_am_3 ne3_b1_ap_3 u3_2 ge1 ge3_am_3 ge3_ap_3 u34_0) hZ (hw _ (List.mem_of_getElem? (i := 17) rfl)) (hw _ (List.mem_of_getElem? (i := 16) rfl)) (by decide) (by decide)) (g := (mkF m 53 #[.val (.int p0), .val (.int p1), .val (.ref b1), .val (.int (Int32.ofNat k2_34)), .unset, .unset] [(.int ((p0.toUInt32 >>> ((16 : Int32) &&& 31).toUInt32).toInt32)), (.int (Int32.ofNat k2_34)), (.ref b1)])) rfl (by rw [hml]; rfl) (argsL := [(.ref b1), (.int (Int32.ofNat k2_34)), (.int ((p0.toUInt32 >>> ((16 : Int32) &&& 31).toUInt32).toInt32))]) (rest := []) (lenOf pd__Lcom_example_tidegraph_tidegraph_amd64_SparseSet_II_I rfl) rfl (by show 2 * 0 + _ ≤ _; exact Nat.le_of_eq rfl) (hb hby at_53) (fun _ _ => ⟨rfl, rfl, (by decide : 3 + 0 ≤ _), (by decide : 11 + 0 ≤ _)⟩)
  dsimp only [Pt.U, Pt.locs, Pt.cells, Pt.slots] at X42 l42 y42 z42 st42 hQ42
  subst l42 y42 z42
  obtain ⟨M2_42, P2_42, n2_42, k2_42, rfl, N42q, Kc42, p42_0, p42_1, p42_2, p42_3, p42_4, p42_5, u42_0⟩ := hQ42
  have N42 := Fr.app N34 N42q
  refine OG.step st42 ?_
  have f43 := p34_0.keep Kc42
  have K42 := K34.trans Kc42 (allS (Or.inr sz1) (allS (Or.inr sz3_am_3) (allS (Or.inr sz3_ap_3) all0)))
  show OG _ _ _ _ _ _ _ (T42.setTop (mkF m 56 #[.val (.int p0), .val (.int p1), .val (.ref b1), .val (.int (Int32.ofNat k2_34)), .unset, .unset] [(.int (Int32.ofNat k2_42))]))
  have s49 : ∀ tz, Steps p.tables e below (T42.setTop (mkF m 63 #[.val (.int p0), .val (.int p1), .val (.ref b1), .val (.int (Int32.ofNat k2_42)), .unset, .unset] [(.int ((p0.toUInt32 >>> ((20 : Int32) &&& 31).toUInt32).toInt32)), (.int (Int32.ofNat k2_42)), (.ref b1)])) tz → Steps p.tables e below (T42.setTop (mkF m 56 #[.val (.int p0), .val (.int p1), .val (.ref b1), .val (.int (Int32.ofNat k2_34)), .unset, .unset] [(.int (Int32.ofNat k2_42))])) tz := by
    intro tz kz
    refine XS.istoreN X42.here hx rfl (hb hby at_56) rfl (l' := #[.val (.int p0), .val (.int p1), .val (.ref b1), .val (.int (Int32.ofNat k2_42)), .unset, .unset]) rfl ?_
    show Steps p.tables e below (T42.setTop (mkF m 57 #[.val (.int p0), .val (.int p1), .val (.ref b1), .val (.int (Int32.ofNat k2_42)), .unset, .unset] [])) _
    refine XS.aloadN X42.here hx rfl (hb hby at_57) rfl rfl ?_
    show Steps p.tables e below (T42.setTop (mkF m 58 #[.val (.int p0), .val (.int p1), .val (.ref b1), .val (.int (Int32.ofNat k2_42)), .unset, .unset] [(.ref b1)])) _
    refine XS.iloadN X42.here hx rfl (hb hby at_58) rfl ?_
    show Steps p.tables e below (T42.setTop (mkF m 59 #[.val (.int p0), .val (.int p1), .val (.ref b1), .val (.int (Int32.ofNat k2_42)), .unset, .unset] [(.int (Int32.ofNat k2_42)), (.ref b1)])) _
    refine XS.iloadN X42.here hx rfl (hb hby at_59) rfl ?_
    show Steps p.tables e below (T42.setTop (mkF m 60 #[.val (.int p0), .val (.int p1), .val (.ref b1), .val (.int (Int32.ofNat k2_42)), .unset, .unset] [(.int p0), (.int (Int32.ofNat k2_42)), (.ref b1)])) _
    refine XS.bipush X42.here hx rfl (hb hby at_60) ?_
    show Steps p.tables e below (T42.setTop (mkF m 62 #[.val (.int p0), .val (.int p1), .val (.ref b1), .val (.int (Int32.ofNat k2_42)), .unset, .unset] [(.int (20 : Int32)), (.int p0), (.int (Int32.ofNat k2_42)), (.ref b1)])) _
    refine XS.iushr X42.here hx rfl (hb hby at_62) rfl ?_
    exact kz
  refine OG.step s49 ?_
  obtain ⟨_, _, ⟨T50, L50, k50, n50⟩, -, X50, ⟨Lc50, hQ50, l50, y50, z50⟩, st50⟩ := Jvm.LawKit.callS X42 hx (y := (⟨"com/example/tidegraph/tidegraph/amd64/SparseSetContainsPinLaw", "step", "(Lcom/example/tidegraph/tidegraph/amd64/SparseSet;II)I"⟩ : MethodName)) hown (mvT hZ (hw _ (List.mem_of_getElem? (i := 14) rfl))) (mvT hZ (hw _ (List.mem_of_getElem? (i := 15) rfl))) (mvT hZ (hw _ (List.mem_of_getElem? (i := 16) rfl))) (mvT hZ (hw _ (List.mem_of_getElem? (i := 17) rfl))) (by decide) (backOf (W := 0) (rm3 l Z a0 hw [] b1 ((p0.toUInt32 >>> ((20 : Int32) &&& 31).toUInt32).toInt32) am_3 ap_3 km_3 kp_3 M2_42 P2_42 n2_42 k2_42 T42.heap n0 (Nat.le_trans Z0 K42.1) p42_0 p42_1 p42_2 p42_3 p42_4 p42_5 ne3_b1_am_3 ne3_b1_ap_3 u3_2 ge1 ge3_am_3 ge3_ap_3 u42_0) hZ (hw _ (List.mem_of_getElem? (i := 17) rfl)) (hw _ (List.mem_of_getElem? (i := 16) rfl)) (by decide) (by decide)) (g := (mkF m 63 #[.val (.int p0), .val (.int p1), .val (.ref b1), .val (.int (Int32.ofNat k2_42)), .unset, .unset] [(.int ((p0.toUInt32 >>> ((20 : Int32) &&& 31).toUInt32).toInt32)), (.int (Int32.ofNat k2_42)), (.ref b1)])) rfl (by rw [hml]; rfl) (argsL := [(.ref b1), (.int (Int32.ofNat k2_42)), (.int ((p0.toUInt32 >>> ((20 : Int32) &&& 31).toUInt32).toInt32))]) (rest := []) (lenOf pd__Lcom_example_tidegraph_tidegraph_amd64_SparseSet_II_I rfl) rfl (by show 2 * 0 + _ ≤ _; exact Nat.le_of_eq rfl) (hb hby at_63) (fun _ _ => ⟨rfl, rfl, (by decide : 3 + 0 ≤ _), (by decide : 11 + 0 ≤ _)⟩)
  dsimp only [Pt.U, Pt.locs, Pt.cells, Pt.slots] at X50 l50 y50 z50 st50 hQ50
  subst l50 y50 z50
  obtain ⟨M2_50, P2_50, n2_50, k2_50, rfl, N50q, Kc50, p50_0, p50_1, p50_2, p50_3, p50_4, p50_5, u50_0⟩ := hQ50
  have N50 := Fr.app N42 N50q
  refine OG.step st50 ?_
  have f51 := p42_0.keep Kc50
  have K50 := K42.trans Kc50 (allS (Or.inr sz1) (allS (Or.inr sz3_am_3) (allS (Or.inr sz3_ap_3) all0)))
  show OG _ _ _ _ _ _ _ (T50.setTop (mkF m 66 #[.val (.int p0), .val (.int p1), .val (.ref b1), .val (.int (Int32.ofNat k2_42)), .unset, .unset] [(.int (Int32.ofNat k2_50))]))
  have s57 : ∀ tz, Steps p.tables e below (T50.setTop (mkF m 72 #[.val (.int p0), .val (.int p1), .val (.ref b1), .val (.int (Int32.ofNat k2_50)), .val (.int (p1 &&& (3 : Int32))), .unset] [])) tz → Steps p.tables e below (T50.setTop (mkF m 66 #[.val (.int p0), .val (.int p1), .val (.ref b1), .val (.int (Int32.ofNat k2_42)), .unset, .unset] [(.int (Int32.ofNat k2_50))])) tz := by
    intro tz kz
    refine XS.istoreN X50.here hx rfl (hb hby at_66) rfl (l' := #[.val (.int p0), .val (.int p1), .val (.ref b1), .val (.int (Int32.ofNat k2_50)), .unset, .unset]) rfl ?_
    show Steps p.tables e below (T50.setTop (mkF m 67 #[.val (.int p0), .val (.int p1), .val (.ref b1), .val (.int (Int32.ofNat k2_50)), .unset, .unset] [])) _
    refine XS.iloadN X50.here hx rfl (hb hby at_67) rfl ?_
    show Steps p.tables e below (T50.setTop (mkF m 68 #[.val (.int p0), .val (.int p1), .val (.ref b1), .val (.int (Int32.ofNat k2_50)), .unset, .unset] [(.int p1)])) _
    refine XS.iconst X50.here hx rfl (hb hby at_68) ?_
    show Steps p.tables e below (T50.setTop (mkF m 69 #[.val (.int p0), .val (.int p1), .val (.ref b1), .val (.int (Int32.ofNat k2_50)), .unset, .unset] [(.int (3 : Int32)), (.int p1)])) _
    refine XS.iand X50.here hx rfl (hb hby at_69) rfl ?_
    show Steps p.tables e below (T50.setTop (mkF m 70 #[.val (.int p0), .val (.int p1), .val (.ref b1), .val (.int (Int32.ofNat k2_50)), .unset, .unset] [(.int (p1 &&& (3 : Int32)))])) _
    refine XS.istore X50.here hx rfl (hb hby at_70) rfl (l' := #[.val (.int p0), .val (.int p1), .val (.ref b1), .val (.int (Int32.ofNat k2_50)), .val (.int (p1 &&& (3 : Int32))), .unset]) rfl ?_
    exact kz
  refine OG.step s57 ?_
  obtain ⟨x, hx4, ex⟩ := own_small p1
  rw [ex]
  have s58 : ∀ tz, Steps p.tables e below (T50.setTop (mkF m 86 #[.val (.int p0), .val (.int p1), .val (.ref b1), .val (.int (Int32.ofNat k2_50)), .val (.int (Int32.ofNat x)), .unset] [(.int (bI (¬ (((((Int32.ofNat k2_50).toUInt32 >>> ((Int32.ofNat x) &&& 31).toUInt32).toInt32) &&& (1 : Int32)) = (0 : Int32)))))])) tz → Steps p.tables e below (T50.setTop (mkF m 72 #[.val (.int p0), .val (.int p1), .val (.ref b1), .val (.int (Int32.ofNat k2_50)), .val (.int (Int32.ofNat x)), .unset] [])) tz := by
    intro tz kz
    refine XS.iloadN X50.here hx rfl (hb hby at_72) rfl ?_
    show Steps p.tables e below (T50.setTop (mkF m 73 #[.val (.int p0), .val (.int p1), .val (.ref b1), .val (.int (Int32.ofNat k2_50)), .val (.int (Int32.ofNat x)), .unset] [(.int (Int32.ofNat k2_50))])) _
    refine XS.iload X50.here hx rfl (hb hby at_73) rfl ?_
    show Steps p.tables e below (T50.setTop (mkF m 75 #[.val (.int p0), .val (.int p1), .val (.ref b1), .val (.int (Int32.ofNat k2_50)), .val (.int (Int32.ofNat x)), .unset] [(.int (Int32.ofNat x)), (.int (Int32.ofNat k2_50))])) _
    refine XS.iushr X50.here hx rfl (hb hby at_75) rfl ?_
    show Steps p.tables e below (T50.setTop (mkF m 76 #[.val (.int p0), .val (.int p1), .val (.ref b1), .val (.int (Int32.ofNat k2_50)), .val (.int (Int32.ofNat x)), .unset] [(.int (((Int32.ofNat k2_50).toUInt32 >>> ((Int32.ofNat x) &&& 31).toUInt32).toInt32))])) _
    refine XS.iconst X50.here hx rfl (hb hby at_76) ?_
    show Steps p.tables e below (T50.setTop (mkF m 77 #[.val (.int p0), .val (.int p1), .val (.ref b1), .val (.int (Int32.ofNat k2_50)), .val (.int (Int32.ofNat x)), .unset] [(.int (1 : Int32)), (.int (((Int32.ofNat k2_50).toUInt32 >>> ((Int32.ofNat x) &&& 31).toUInt32).toInt32))])) _
    refine XS.iand X50.here hx rfl (hb hby at_77) rfl ?_
    show Steps p.tables e below (T50.setTop (mkF m 78 #[.val (.int p0), .val (.int p1), .val (.ref b1), .val (.int (Int32.ofNat k2_50)), .val (.int (Int32.ofNat x)), .unset] [(.int ((((Int32.ofNat k2_50).toUInt32 >>> ((Int32.ofNat x) &&& 31).toUInt32).toInt32) &&& (1 : Int32)))])) _
    by_cases hm78 : ((((Int32.ofNat k2_50).toUInt32 >>> ((Int32.ofNat x) &&& 31).toUInt32).toInt32) &&& (1 : Int32)) = (0 : Int32)
    · refine XS.ifYes X50.here hx rfl (pc0 := 78) (pc' := 85) rfl (hb hby at_78) rfl ((if0 _ _).trans (teq hm78).1) (by decide) (by decide) ?_
      show Steps p.tables e below (T50.setTop (mkF m 85 #[.val (.int p0), .val (.int p1), .val (.ref b1), .val (.int (Int32.ofNat k2_50)), .val (.int (Int32.ofNat x)), .unset] [])) _
      refine XS.iconst X50.here hx rfl (hb hby at_85) ?_
      show Steps p.tables e below (T50.setTop (mkF m 86 #[.val (.int p0), .val (.int p1), .val (.ref b1), .val (.int (Int32.ofNat k2_50)), .val (.int (Int32.ofNat x)), .unset] [(.int (0 : Int32))])) _
      rw [show (bI (¬ (((((Int32.ofNat k2_50).toUInt32 >>> ((Int32.ofNat x) &&& 31).toUInt32).toInt32) &&& (1 : Int32)) = (0 : Int32)))) = (0 : Int32) from bI_neg (P := ¬ (((((Int32.ofNat k2_50).toUInt32 >>> ((Int32.ofNat x) &&& 31).toUInt32).toInt32) &&& (1 : Int32)) = (0 : Int32))) (fun z => z hm78)] at kz
      exact kz
    · refine XS.ifNo X50.here hx rfl (hb hby at_78) rfl ((if0 _ _).trans (feq hm78).1) ?_
      show Steps p.tables e below (T50.setTop (mkF m 81 #[.val (.int p0), .val (.int p1), .val (.ref b1), .val (.int (Int32.ofNat k2_50)), .val (.int (Int32.ofNat x)), .unset] [])) _
      refine XS.iconst X50.here hx rfl (hb hby at_81) ?_
      show Steps p.tables e below (T50.setTop (mkF m 82 #[.val (.int p0), .val (.int p1), .val (.ref b1), .val (.int (Int32.ofNat k2_50)), .val (.int (Int32.ofNat x)), .unset] [(.int (1 : Int32))])) _
      refine XS.goto X50.here hx rfl (pc0 := 82) (pc' := 86) rfl (hb hby at_82) (by decide) (by decide) ?_
      show Steps p.tables e below (T50.setTop (mkF m 86 #[.val (.int p0), .val (.int p1), .val (.ref b1), .val (.int (Int32.ofNat k2_50)), .val (.int (Int32.ofNat x)), .unset] [(.int (1 : Int32))])) _
      rw [show (bI (¬ (((((Int32.ofNat k2_50).toUInt32 >>> ((Int32.ofNat x) &&& 31).toUInt32).toInt32) &&& (1 : Int32)) = (0 : Int32)))) = (1 : Int32) from bI_pos (P := ¬ (((((Int32.ofNat k2_50).toUInt32 >>> ((Int32.ofNat x) &&& 31).toUInt32).toInt32) &&& (1 : Int32)) = (0 : Int32))) hm78] at kz
      exact kz
  refine OG.step s58 ?_
  have s59 : ∀ tz, Steps p.tables e below (T50.setTop (mkF m 91 #[.val (.int p0), .val (.int p1), .val (.ref b1), .val (.int (Int32.ofNat k2_50)), .val (.int (Int32.ofNat x)), .val (.int (bI (¬ (((((Int32.ofNat k2_50).toUInt32 >>> ((Int32.ofNat x) &&& 31).toUInt32).toInt32) &&& (1 : Int32)) = (0 : Int32)))))] [(.int (Int32.ofNat x)), (.ref b1)])) tz → Steps p.tables e below (T50.setTop (mkF m 86 #[.val (.int p0), .val (.int p1), .val (.ref b1), .val (.int (Int32.ofNat k2_50)), .val (.int (Int32.ofNat x)), .unset] [(.int (bI (¬ (((((Int32.ofNat k2_50).toUInt32 >>> ((Int32.ofNat x) &&& 31).toUInt32).toInt32) &&& (1 : Int32)) = (0 : Int32)))))])) tz := by
    intro tz kz
    refine XS.istore X50.here hx rfl (hb hby at_86) rfl (l' := #[.val (.int p0), .val (.int p1), .val (.ref b1), .val (.int (Int32.ofNat k2_50)), .val (.int (Int32.ofNat x)), .val (.int (bI (¬ (((((Int32.ofNat k2_50).toUInt32 >>> ((Int32.ofNat x) &&& 31).toUInt32).toInt32) &&& (1 : Int32)) = (0 : Int32)))))]) rfl ?_
    show Steps p.tables e below (T50.setTop (mkF m 88 #[.val (.int p0), .val (.int p1), .val (.ref b1), .val (.int (Int32.ofNat k2_50)), .val (.int (Int32.ofNat x)), .val (.int (bI (¬ (((((Int32.ofNat k2_50).toUInt32 >>> ((Int32.ofNat x) &&& 31).toUInt32).toInt32) &&& (1 : Int32)) = (0 : Int32)))))] [])) _
    refine XS.aloadN X50.here hx rfl (hb hby at_88) rfl rfl ?_
    show Steps p.tables e below (T50.setTop (mkF m 89 #[.val (.int p0), .val (.int p1), .val (.ref b1), .val (.int (Int32.ofNat k2_50)), .val (.int (Int32.ofNat x)), .val (.int (bI (¬ (((((Int32.ofNat k2_50).toUInt32 >>> ((Int32.ofNat x) &&& 31).toUInt32).toInt32) &&& (1 : Int32)) = (0 : Int32)))))] [(.ref b1)])) _
    refine XS.iload X50.here hx rfl (hb hby at_89) rfl ?_
    exact kz
  refine OG.step s59 ?_
  obtain ⟨cq60, kq60, q60a, q60b, q60c⟩ := isOf hZ rfl p50_0
  obtain ⟨_, _, ⟨T60, L60, k60, n60⟩, -, X60, ⟨Lc60, hQ60, l60, y60, z60⟩, st60⟩ := X50.virtualBack hx (y := (⟨"com/example/tidegraph/tidegraph/amd64/SparseSet", "contains", "(I)Z"⟩ : MethodName)) (z := (⟨"com/example/tidegraph/tidegraph/amd64/SparseSet", "contains", "(I)Z"⟩ : MethodName)) hown (mvT hZ (hw _ (List.mem_of_getElem? (i := 30) rfl))) (mvT hZ (hw _ (List.mem_of_getElem? (i := 24) rfl))) (notFace_of_selects (args := #[]) (mvT hZ (hw _ (List.mem_of_getElem? (i := 26) rfl)))) (mvT hZ (hw _ (List.mem_of_getElem? (i := 26) rfl))) (mvT hZ (hw _ (List.mem_of_getElem? (i := 25) rfl))) (by decide) (backOf (W := 0) (rm5 l Z a0 hw [] b1 x am_3 ap_3 km_3 kp_3 M2_50 P2_50 n2_50 T50.heap n0 (Nat.le_trans Z0 K50.1) p50_0 p50_1 p50_2 p50_3 p50_4 p50_5 u50_0.1 hx4) hZ (hw _ (List.mem_of_getElem? (i := 27) rfl)) (hw _ (List.mem_of_getElem? (i := 2) rfl)) (by decide) (by decide)) q60a q60c (g := (mkF m 91 #[.val (.int p0), .val (.int p1), .val (.ref b1), .val (.int (Int32.ofNat k2_50)), .val (.int (Int32.ofNat x)), .val (.int (bI (¬ (((((Int32.ofNat k2_50).toUInt32 >>> ((Int32.ofNat x) &&& 31).toUInt32).toInt32) &&& (1 : Int32)) = (0 : Int32)))))] [(.int (Int32.ofNat x)), (.ref b1)])) rfl (by rw [hml]; rfl) (Steps.refl _) (argsL := [(.int (Int32.ofNat x))]) (rest := []) (lenOf pd__I_Z rfl) rfl (by show 2 * 0 + _ ≤ _; exact Nat.le_of_eq rfl) (hb hby at_91) (fun _ _ => ⟨rfl, rfl, (by decide : 3 + 0 ≤ _), (by decide : 11 + 0 ≤ _)⟩)
  dsimp only [Pt.U, Pt.locs, Pt.cells, Pt.slots] at X60 l60 y60 z60 st60 hQ60
  subst l60 y60 z60
  obtain ⟨rfl, N60q, e60⟩ := hQ60
  have N60 := Fr.app N50 N60q
  refine OG.step (fun tz kz => st60.trans kz) ?_
  show OG _ _ _ _ _ _ _ (T60.setTop (mkF m 94 #[.val (.int p0), .val (.int p1), .val (.ref b1), .val (.int (Int32.ofNat k2_50)), .val (.int (Int32.ofNat x)), .val (.int (bI (¬ (((((Int32.ofNat k2_50).toUInt32 >>> ((Int32.ofNat x) &&& 31).toUInt32).toInt32) &&& (1 : Int32)) = (0 : Int32)))))] [(.int (bI (P2_50 x < n2_50 ∧ M2_50 (P2_50 x) = x)))]))
  have s61 : ∀ tz, Steps p.tables e below (T60.setTop (mkF m 104 #[.val (.int p0), .val (.int p1), .val (.ref b1), .val (.int (Int32.ofNat k2_50)), .val (.int (Int32.ofNat x)), .val (.int (bI (¬ (((((Int32.ofNat k2_50).toUInt32 >>> ((Int32.ofNat x) &&& 31).toUInt32).toInt32) &&& (1 : Int32)) = (0 : Int32)))))] [(.int (1 : Int32))])) tz → Steps p.tables e below (T60.setTop (mkF m 94 #[.val (.int p0), .val (.int p1), .val (.ref b1), .val (.int (Int32.ofNat k2_50)), .val (.int (Int32.ofNat x)), .val (.int (bI (¬ (((((Int32.ofNat k2_50).toUInt32 >>> ((Int32.ofNat x) &&& 31).toUInt32).toInt32) &&& (1 : Int32)) = (0 : Int32)))))] [(.int (bI (P2_50 x < n2_50 ∧ M2_50 (P2_50 x) = x)))])) tz := by
    intro tz kz
    refine XS.iload X60.here hx rfl (hb hby at_94) rfl ?_
    show Steps p.tables e below (T60.setTop (mkF m 96 #[.val (.int p0), .val (.int p1), .val (.ref b1), .val (.int (Int32.ofNat k2_50)), .val (.int (Int32.ofNat x)), .val (.int (bI (¬ (((((Int32.ofNat k2_50).toUInt32 >>> ((Int32.ofNat x) &&& 31).toUInt32).toInt32) &&& (1 : Int32)) = (0 : Int32)))))] [(.int (bI (¬ (((((Int32.ofNat k2_50).toUInt32 >>> ((Int32.ofNat x) &&& 31).toUInt32).toInt32) &&& (1 : Int32)) = (0 : Int32))))), (.int (bI (P2_50 x < n2_50 ∧ M2_50 (P2_50 x) = x)))])) _
    refine XS.icmpNo X60.here hx rfl (hb hby at_96) rfl (teq (bI_iff.mpr (own_fin u50_0 hx4))).2 ?_
    show Steps p.tables e below (T60.setTop (mkF m 99 #[.val (.int p0), .val (.int p1), .val (.ref b1), .val (.int (Int32.ofNat k2_50)), .val (.int (Int32.ofNat x)), .val (.int (bI (¬ (((((Int32.ofNat k2_50).toUInt32 >>> ((Int32.ofNat x) &&& 31).toUInt32).toInt32) &&& (1 : Int32)) = (0 : Int32)))))] [])) _
    refine XS.iconst X60.here hx rfl (hb hby at_99) ?_
    show Steps p.tables e below (T60.setTop (mkF m 100 #[.val (.int p0), .val (.int p1), .val (.ref b1), .val (.int (Int32.ofNat k2_50)), .val (.int (Int32.ofNat x)), .val (.int (bI (¬ (((((Int32.ofNat k2_50).toUInt32 >>> ((Int32.ofNat x) &&& 31).toUInt32).toInt32) &&& (1 : Int32)) = (0 : Int32)))))] [(.int (1 : Int32))])) _
    refine XS.goto X60.here hx rfl (pc0 := 100) (pc' := 104) rfl (hb hby at_100) (by decide) (by decide) ?_
    exact kz
  refine OG.step s61 ?_
  exact OG.retZ X60 hx hlk Bd.returns (hb hby at_104) (nar_1) e60 ⟨rfl, N60⟩ (by decide) (by decide)
set_option maxRecDepth 65536 in
set_option maxHeartbeats 40000000 in
theorem comes_1 {Post : Tables → Env → Array Value → State → Outcome → State → Prop} (hpost : ∀ tb e args s v u, (limb_1_1.after args s (.returned v) u = true ∧ limb_1_2.after args s (.returned v) u = true ∧ True) → FrameEnd s (.returned v) u (Jvm.fieldLocs frame_1_writes args s ++ Jvm.arrayLocs frame_1_arrays args s ++ Jvm.staticLocs frame_1_statics s) 16 128 → Post tb e args s (.returned v) u) :
    ArmFor flags0 classFile x code maxLocals ret World_1 tables_1 room_1 Calls_1 rest_1 Pre_1 Post := by
  intro l hfl _ _ p e ha hc hk s m args below hf hA hF happ hP
  obtain ⟨hcalls, hrest, hpre⟩ := hP
  obtain ⟨-, -, -, hnamed, -, -, -, hat⟩ := (Spec.applies_iff hf).mp happ
  obtain ⟨hg, hn⟩ := and_e (Cond.before_iff.mp (show (Jvm.Cond.and given_1 narrow_1).before args s = true from hpre))
  obtain ⟨hcount, hg0⟩ := and_e hg
  obtain ⟨ha0, hg1⟩ := and_e hg0
  obtain ⟨w0, w1, rfl⟩ : ∃ w0 w1 : Value, args = #[w0, w1] := by
    have hs : args.size = 2 := by simpa [Cond.value, given_1] using hcount
    obtain ⟨L⟩ := args
    match L, hs with
    | [w0, w1], _ => exact ⟨w0, w1, rfl⟩
  have hw := fun d (hd : d ∈ tables_1) => atoms_spec (ws := Jvm.Cond.code x code maxLocals ret :: tables_1) hat d (List.mem_cons_of_mem _ hd)
  obtain ⟨i0, ei0⟩ := is_v ha0
  obtain rfl : w0 = (.int i0) := Option.some.inj ei0
  obtain ⟨i1, ei1⟩ := is_v hg1
  obtain rfl : w1 = (.int i1) := Option.some.inj ei1
  obtain ⟨n, o, h1, h2, h3, _, L, rfl, ⟨rfl, N⟩, hq⟩ := rm0 l s _ hw tables_1 i0 i1 s.heap s.heap.size (Nat.le_refl _) p e ha hc hk s m _ below hf ((Spec.applies_iff_loose hf).mp happ).1 ⟨rfl, State.Warmed39.refl s, rfl⟩ trivial
  refine ⟨n, _, h1, h2, h3, hpost _ _ _ _ _ _ ⟨Cond.after_iff.mpr rfl, Cond.after_iff.mpr (eq_i res_at (Term.int_eval (1)) rfl), trivial⟩ ⟨hq.1, hq.2.1, (hq.2.2.sift fun y hy => Or.inr (N y hy)).mono (by decide) (by decide)⟩⟩
theorem main_1_1 : Claimed_1_1 := comes_1 fun _ _ _ _ _ _ h hF => ⟨h.1, hF⟩
theorem main_1_2 : Claimed_1_2 := comes_1 fun _ _ _ _ _ _ h hF => ⟨h.2.1, hF⟩
end Jvm.Pilot.@@N@@
namespace Jvm.Pilot.@@N@@
open Jvm Jvm.ClassFile Sem Op Lib Jvm.Free Jvm.Stand Jvm.Pilot.@@N@@.Jvm.D
/-! MADE BY PROGRAM (witnessworld.py) out of the Statement's table words and the real class files: 9 classes; the members and pool entries that the words name. The judged class is class 1, her method 2. -/
namespace start1
open Jvm.ClassFile
def u (s : String) : CpInfo := .utf8 (stringToUtf16 s)
/-- a pool by its gaps: so many unusable entries, then the entry; so many at the end -/
def gap : Nat → List CpInfo → List CpInfo
  | 0, r => r
  | n + 1, r => .unusable :: gap n r
def poolList (es : List (Nat × CpInfo)) (last : Nat) : List CpInfo := es.foldr (fun e r => gap e.1 (e.2 :: r)) (gap last [])
def pool (es : List (Nat × CpInfo)) (last : Nat) : Array CpInfo := ⟨poolList es last⟩
def fileOf (pool : Array CpInfo) (this : Nat) (attrs : Array Attribute := #[]) (ms : Array MethodInfo := #[]) (fl : Nat := 33) (sup : Nat := 0) (ifs : Array Nat := #[]) (fds : Array FieldInfo := #[]) : ClassFile where
  minorVersion := 0
  majorVersion := 65
  constantPool := pool
  accessFlags := fl
  thisClass := this
  superClass := sup
  interfaces := ifs
  fields := fds
  methods := ms
  attributes := attrs
def plain (name : String) (sup : Option ClassId) : Class where
  name := name
  kind := .ordinary
  loader := none
  accessFlags := 33
  super := sup
  interfaces := #[]
  cf := none
  fields := #[]
  methods := #[]
  instanceTypes := #[]
  staticTypes := #[]
  resolved := #[]
  callSites := []
  init := .initialized
  statics := none
  mirror := none

def pool0 : Array CpInfo := pool [(5, u "<init>"), (0, u "()V"), (1, .class_ 10), (1, u "java/lang/Object")] 113

def k0c0 : Code := { maxStack := 0, maxLocals := 1, code := object_method_1_code, exceptionTable := #[], attributes := #[] }
def k0m0 : Method := { name := "<init>", desc := "()V", sig := { parameters := [], returnType := none }, accessFlags := 1, code := some k0c0 }
/-- java/lang/Object -/
def k0 : Class := { plain "java/lang/Object" none with
  accessFlags := 33
  interfaces := #[]
  cf := some (fileOf pool0 8 #[] #[{ accessFlags := 1, nameIndex := 5, descriptorIndex := 6, attributes := #[] }] 33 0 #[] #[])
  fields := #[]
  methods := #[k0m0]
  instanceTypes := #[]
  staticTypes := #[]
  resolved := Array.replicate 124 none
  statics := none }

def pool1 : Array CpInfo := pool [(2, .class_ 4), (1, u "java/lang/Object"), (0, u "<init>"), (0, u "()V"), (0, .methodref 8 9), (0, .class_ 10), (0, .nameAndType 11 12), (0, u "com/example/tidegraph/tidegraph/amd64/SparseSet"), (0, u "add"), (0, u "(I)V"), (0, .methodref 8 14), (0, .nameAndType 15 12), (0, u "remove"), (0, .methodref 8 17), (0, .nameAndType 18 6), (0, u "clear"), (0, .methodref 8 20), (0, .nameAndType 5 12), (0, .methodref 22 23), (0, .class_ 24), (0, .nameAndType 25 26), (0, u "com/example/tidegraph/tidegraph/amd64/SparseSetContainsPinLaw"), (0, u "step"), (0, u "(Lcom/example/tidegraph/tidegraph/amd64/SparseSet;II)I"), (0, .methodref 8 28), (0, .nameAndType 29 30), (0, u "contains"), (0, u "(I)Z"), (3, u "law"), (0, u "(II)Z")] 2

def k1m0 : Method := { name := "<init>", desc := "()V", sig := { parameters := [], returnType := none }, accessFlags := 2, code := none }
def k1c1 : Code := { maxStack := 3, maxLocals := 5, code := method_2_code, exceptionTable := #[], attributes := #[] }
def k1m1 : Method := { name := "step", desc := "(Lcom/example/tidegraph/tidegraph/amd64/SparseSet;II)I", sig := { parameters := [(.object "com/example/tidegraph/tidegraph/amd64/SparseSet"), .int, .int], returnType := some .int }, accessFlags := 10, code := some k1c1 }
def k1c2 : Code := { maxStack := 4, maxLocals := 6, code := code, exceptionTable := #[], attributes := #[] }
def k1m2 : Method := { name := "law", desc := "(II)Z", sig := { parameters := [.int, .int], returnType := some .boolean }, accessFlags := 9, code := some k1c2 }
/-- com/example/tidegraph/tidegraph/amd64/SparseSetContainsPinLaw -/
def k1 : Class := { plain "com/example/tidegraph/tidegraph/amd64/SparseSetContainsPinLaw" (some 0) with
  accessFlags := 49
  interfaces := #[]
  cf := some (fileOf pool1 22 #[] #[{ accessFlags := 2, nameIndex := 5, descriptorIndex := 6, attributes := #[] }, { accessFlags := 10, nameIndex := 25, descriptorIndex := 26, attributes := #[] }, { accessFlags := 9, nameIndex := 34, descriptorIndex := 35, attributes := #[] }] 49 2 #[] #[])
  fields := #[]
  methods := #[k1m0, k1m1, k1m2]
  instanceTypes := #[]
  staticTypes := #[]
  resolved := Array.replicate 38 none
  statics := none }

def pool2 : Array CpInfo := pool [(1, .methodref 2 3), (0, .class_ 4), (0, .nameAndType 5 6), (0, u "java/lang/Object"), (0, u "<init>"), (0, u "()V"), (0, .fieldref 8 9), (0, .class_ 10), (0, .nameAndType 11 12), (0, u "com/example/tidegraph/tidegraph/amd64/SparseSet"), (0, u "members"), (0, u "[I"), (0, .fieldref 8 14), (0, .nameAndType 15 12), (0, u "places"), (0, .fieldref 8 17), (0, .nameAndType 18 19), (0, u "size"), (0, u "I"), (0, .methodref 8 21), (0, .nameAndType 22 23), (0, u "contains"), (0, u "(I)Z"), (10, u "(I)V"), (3, u "add"), (0, u "remove"), (3, u "clear")] 4

def k2c0 : Code := { maxStack := 2, maxLocals := 2, code := prog_34_method_1_code, exceptionTable := #[], attributes := #[] }
def k2m0 : Method := { name := "<init>", desc := "(I)V", sig := { parameters := [.int], returnType := none }, accessFlags := 0, code := some k2c0 }
def k2c1 : Code := { maxStack := 2, maxLocals := 3, code := prog_34_method_2_code, exceptionTable := #[], attributes := #[] }
def k2m1 : Method := { name := "contains", desc := "(I)Z", sig := { parameters := [.int], returnType := some .boolean }, accessFlags := 0, code := some k2c1 }
def k2c2 : Code := { maxStack := 6, maxLocals := 2, code := prog_34_method_3_code, exceptionTable := #[], attributes := #[] }
def k2m2 : Method := { name := "add", desc := "(I)V", sig := { parameters := [.int], returnType := none }, accessFlags := 0, code := some k2c2 }
def k2c3 : Code := { maxStack := 4, maxLocals := 3, code := prog_34_method_4_code, exceptionTable := #[], attributes := #[] }
def k2m3 : Method := { name := "remove", desc := "(I)V", sig := { parameters := [.int], returnType := none }, accessFlags := 0, code := some k2c3 }
def k2c4 : Code := { maxStack := 2, maxLocals := 1, code := prog_34_method_7_code, exceptionTable := #[], attributes := #[] }
def k2m4 : Method := { name := "clear", desc := "()V", sig := { parameters := [], returnType := none }, accessFlags := 0, code := some k2c4 }
/-- com/example/tidegraph/tidegraph/amd64/SparseSet -/
def k2 : Class := { plain "com/example/tidegraph/tidegraph/amd64/SparseSet" (some 0) with
  accessFlags := 48
  interfaces := #[]
  cf := some (fileOf pool2 8 #[] #[{ accessFlags := 0, nameIndex := 5, descriptorIndex := 34, attributes := #[] }, { accessFlags := 0, nameIndex := 22, descriptorIndex := 23, attributes := #[] }, { accessFlags := 0, nameIndex := 38, descriptorIndex := 34, attributes := #[] }, { accessFlags := 0, nameIndex := 39, descriptorIndex := 34, attributes := #[] }, { accessFlags := 0, nameIndex := 43, descriptorIndex := 6, attributes := #[] }] 48 2 #[] #[{ accessFlags := 18, nameIndex := 11, descriptorIndex := 12, attributes := #[] }, { accessFlags := 18, nameIndex := 15, descriptorIndex := 12, attributes := #[] }, { accessFlags := 2, nameIndex := 18, descriptorIndex := 19, attributes := #[] }])
  fields := #[{ name := "members", type := (.array .int), accessFlags := 18, slot := 0, constantValue := 0 }, { name := "places", type := (.array .int), accessFlags := 18, slot := 1, constantValue := 0 }, { name := "size", type := .int, accessFlags := 2, slot := 2, constantValue := 0 }]
  methods := #[k2m0, k2m1, k2m2, k2m3, k2m4]
  instanceTypes := #[(.array .int), (.array .int), .int]
  staticTypes := #[]
  resolved := Array.replicate 48 none
  statics := none }

def pool3 : Array CpInfo := pool [(1, u "java/lang/Cloneable"), (0, .class_ 1), (0, u "java/lang/Object"), (0, .class_ 3)] 3

/-- java/lang/Cloneable -/
def k3 : Class := { plain "java/lang/Cloneable" (some 0) with
  accessFlags := 1537
  interfaces := #[]
  cf := some (fileOf pool3 2 #[] #[] 1537 4 #[] #[])
  fields := #[]
  methods := #[]
  instanceTypes := #[]
  staticTypes := #[]
  resolved := Array.replicate 8 none
  statics := none }

def pool4 : Array CpInfo := pool [(1, u "java/io/Serializable"), (0, .class_ 1), (0, u "java/lang/Object"), (0, .class_ 3)] 3

/-- java/io/Serializable -/
def k4 : Class := { plain "java/io/Serializable" (some 0) with
  accessFlags := 1537
  interfaces := #[]
  cf := some (fileOf pool4 2 #[] #[] 1537 4 #[] #[])
  fields := #[]
  methods := #[]
  instanceTypes := #[]
  staticTypes := #[]
  resolved := Array.replicate 8 none
  statics := none }

/-- the primitive byte -/
def k5 : Class := { plain "byte" none with kind := .primitive 'B', accessFlags := 0x411 }
/-- [B -/
def k6 : Class := { plain "[B" (some 0) with kind := .array 5 .byte, interfaces := #[3, 4], accessFlags := 1041 }

/-- the primitive int -/
def k7 : Class := { plain "int" none with kind := .primitive 'I', accessFlags := 0x411 }
/-- [I -/
def k8 : Class := { plain "[I" (some 0) with kind := .array 7 .int, interfaces := #[3, 4], accessFlags := 1041 }

def heap : Heap := #[]
def classes : Array Class := #[k0, k1, k2, k3, k4, k5, k6, k7, k8]
def interned : List (Array UInt16 × Addr) := []
def slotsUsed : Nat := 0
def theMethod : MethodId := ⟨1, 2⟩
def args0 : Array Value := #[.int 5, .int 9]
def aboutOver (below : List Frame) : State where
  vm := { classes := classes, interned := interned.toArray }
  heap := heap
  slotsUsed := slotsUsed
  threads := #[{ frames := .invoking theMethod args0 :: below }]
def below0 : List Frame := [.native { method := ⟨0, 0⟩, args := #[] }]
def about1 : State := aboutOver below0
def p0 : Program := .bare "" "" ""
def e0 : Env := launch0.env 0 0 0
theorem w_frames : about1.frames = Frame.invoking theMethod args0 :: below0 := rfl
set_option maxRecDepth 65536 in
theorem w_args : argsFit about1.vm theMethod args0 = true := by decide +kernel
set_option maxRecDepth 65536 in
theorem w_heap : heapFits about1 = true := by decide +kernel
set_option maxRecDepth 65536 in
theorem w_runnable : about1.curStatus? = some .runnable := by decide +kernel
set_option maxRecDepth 65536 in
theorem w_alone : about1.alone = true := by decide +kernel
set_option maxRecDepth 65536 in
theorem w_named : about1.methodNamed? x = some theMethod := by decide +kernel
set_option maxRecDepth 65536 in
theorem w_hears : about1.hears theMethod below0 = true := by decide +kernel
set_option maxRecDepth 65536 in
theorem w_ripe : about1.ripe theMethod args0 below0 = true := by decide +kernel
theorem w_running : about1.status = .running := rfl
set_option maxRecDepth 65536 in
theorem w_room : about1.hasRoom e0.platform room_1 = true :=
  launch0.hasRoom_least _ room_1 (by decide +kernel) (by decide +kernel) (by decide +kernel) (by decide +kernel) (by decide +kernel) (by decide +kernel)
theorem allAtoms_all (ts : List Jvm.Cond) (a : Array Jvm.Value) (st : Jvm.State) : (allAtoms ts).before a st = ts.all (fun c => c.before a st) := by
  induction ts with
  | nil => rfl
  | cons c t ih =>
    show (Jvm.Cond.and c (allAtoms t)).before a st = _
    rw [Jvm.Cond.before_and, ih, List.all_cons]
def words1 : List Jvm.Cond := Jvm.Cond.code x code maxLocals ret :: tables_1
/-- a 'code' word, met by the world's own term for the bytes: nothing is compared byte by byte -/
theorem code_word {y : MethodName} {bytes : ByteArray} {mx : Nat} {rt : Option FieldType} {a : Array Value} {s : State} {m : MethodId} {meth : Method} {c : Code} (h1 : s.methodNamed? y = some m) (h2 : s.vm.method? m = some meth) (h3 : meth.code = some c) (h4 : c.code = bytes)
    (h5 : (c.maxLocals == mx && c.exceptionTable.isEmpty && decide (c.maxStack ≤ mostOperands) && decide (meth.sig.returnType = rt) && !meth.locks && decide (parseMethodDescriptor y.desc = some meth.sig)) = true) : (Jvm.Cond.code y bytes mx rt).before a s = true := by
  simp only [Bool.and_eq_true, beq_iff_eq, Bool.not_eq_true', decide_eq_true_eq] at h5
  obtain ⟨⟨⟨⟨⟨g1, g2⟩, g3⟩, g4⟩, g5⟩, g6⟩ := h5
  simp [Cond.before, Cond.holds, Cond.value, h1, h2, h3, h4, g1, g2, g3, g4, g5, g6]
def isCode : Jvm.Cond → Bool
  | .code _ _ _ _ => true
  | _ => false
theorem all_split {L : List Jvm.Cond} {P : Jvm.Cond → Bool} (h1 : L.all (fun c => isCode c || P c) = true) (h2 : ∀ c ∈ L.filter isCode, P c = true) : L.all P = true := by
  refine List.all_eq_true.mpr fun c hc => ?_
  have h := List.all_eq_true.mp h1 c hc
  rcases Bool.eq_false_or_eq_true (isCode c) with hi | hi
  · exact h2 c (List.mem_filter.mpr ⟨hc, hi⟩)
  · simpa [hi] using h
set_option maxRecDepth 65536 in
theorem w_c0 : (Jvm.Cond.code x code maxLocals ret).before args0 about1 = true := code_word (m := ⟨1, 2⟩) (meth := k1m2) (c := k1c2) (by decide +kernel) rfl rfl rfl (by decide +kernel)
set_option maxRecDepth 65536 in
theorem w_c1 : (Jvm.Cond.code ({ cls := "com/example/tidegraph/tidegraph/amd64/SparseSet", name := "<init>", desc := "(I)V" } : Jvm.MethodName) prog_34_method_1_code (2 : Nat) (Option.none : Option Jvm.ClassFile.FieldType)).before args0 about1 = true := code_word (m := ⟨2, 0⟩) (meth := k2m0) (c := k2c0) (by decide +kernel) rfl rfl rfl (by decide +kernel)
set_option maxRecDepth 65536 in
theorem w_c2 : (Jvm.Cond.code ({ cls := "java/lang/Object", name := "<init>", desc := "()V" } : Jvm.MethodName) object_method_1_code (1 : Nat) (Option.none : Option Jvm.ClassFile.FieldType)).before args0 about1 = true := code_word (m := ⟨0, 0⟩) (meth := k0m0) (c := k0c0) (by decide +kernel) rfl rfl rfl (by decide +kernel)
set_option maxRecDepth 65536 in
theorem w_c3 : (Jvm.Cond.code ({ cls := "com/example/tidegraph/tidegraph/amd64/SparseSetContainsPinLaw", name := "step", desc := "(Lcom/example/tidegraph/tidegraph/amd64/SparseSet;II)I" } : Jvm.MethodName) method_2_code (5 : Nat) (Option.some Jvm.ClassFile.FieldType.int)).before args0 about1 = true := code_word (m := ⟨1, 1⟩) (meth := k1m1) (c := k1c1) (by decide +kernel) rfl rfl rfl (by decide +kernel)
set_option maxRecDepth 65536 in
theorem w_c4 : (Jvm.Cond.code ({ cls := "com/example/tidegraph/tidegraph/amd64/SparseSet", name := "add", desc := "(I)V" } : Jvm.MethodName) prog_34_method_3_code (2 : Nat) (Option.none : Option Jvm.ClassFile.FieldType)).before args0 about1 = true := code_word (m := ⟨2, 2⟩) (meth := k2m2) (c := k2c2) (by decide +kernel) rfl rfl rfl (by decide +kernel)
set_option maxRecDepth 65536 in
theorem w_c5 : (Jvm.Cond.code ({ cls := "com/example/tidegraph/tidegraph/amd64/SparseSet", name := "contains", desc := "(I)Z" } : Jvm.MethodName) prog_34_method_2_code (3 : Nat) (Option.some Jvm.ClassFile.FieldType.boolean)).before args0 about1 = true := code_word (m := ⟨2, 1⟩) (meth := k2m1) (c := k2c1) (by decide +kernel) rfl rfl rfl (by decide +kernel)
set_option maxRecDepth 65536 in
theorem w_c6 : (Jvm.Cond.code ({ cls := "com/example/tidegraph/tidegraph/amd64/SparseSet", name := "remove", desc := "(I)V" } : Jvm.MethodName) prog_34_method_4_code (3 : Nat) (Option.none : Option Jvm.ClassFile.FieldType)).before args0 about1 = true := code_word (m := ⟨2, 3⟩) (meth := k2m3) (c := k2c3) (by decide +kernel) rfl rfl rfl (by decide +kernel)
set_option maxRecDepth 65536 in
theorem w_c7 : (Jvm.Cond.code ({ cls := "com/example/tidegraph/tidegraph/amd64/SparseSet", name := "clear", desc := "()V" } : Jvm.MethodName) prog_34_method_7_code (1 : Nat) (Option.none : Option Jvm.ClassFile.FieldType)).before args0 about1 = true := code_word (m := ⟨2, 4⟩) (meth := k2m4) (c := k2c4) (by decide +kernel) rfl rfl rfl (by decide +kernel)
def codes1 : List Jvm.Cond := [Jvm.Cond.code x code maxLocals ret, Jvm.Cond.code ({ cls := "com/example/tidegraph/tidegraph/amd64/SparseSet", name := "<init>", desc := "(I)V" } : Jvm.MethodName) prog_34_method_1_code (2 : Nat) (Option.none : Option Jvm.ClassFile.FieldType), Jvm.Cond.code ({ cls := "java/lang/Object", name := "<init>", desc := "()V" } : Jvm.MethodName) object_method_1_code (1 : Nat) (Option.none : Option Jvm.ClassFile.FieldType), Jvm.Cond.code ({ cls := "com/example/tidegraph/tidegraph/amd64/SparseSetContainsPinLaw", name := "step", desc := "(Lcom/example/tidegraph/tidegraph/amd64/SparseSet;II)I" } : Jvm.MethodName) method_2_code (5 : Nat) (Option.some Jvm.ClassFile.FieldType.int), Jvm.Cond.code ({ cls := "com/example/tidegraph/tidegraph/amd64/SparseSet", name := "add", desc := "(I)V" } : Jvm.MethodName) prog_34_method_3_code (2 : Nat) (Option.none : Option Jvm.ClassFile.FieldType), Jvm.Cond.code ({ cls := "com/example/tidegraph/tidegraph/amd64/SparseSet", name := "contains", desc := "(I)Z" } : Jvm.MethodName) prog_34_method_2_code (3 : Nat) (Option.some Jvm.ClassFile.FieldType.boolean), Jvm.Cond.code ({ cls := "com/example/tidegraph/tidegraph/amd64/SparseSet", name := "remove", desc := "(I)V" } : Jvm.MethodName) prog_34_method_4_code (3 : Nat) (Option.none : Option Jvm.ClassFile.FieldType), Jvm.Cond.code ({ cls := "com/example/tidegraph/tidegraph/amd64/SparseSet", name := "clear", desc := "()V" } : Jvm.MethodName) prog_34_method_7_code (1 : Nat) (Option.none : Option Jvm.ClassFile.FieldType)]
set_option maxRecDepth 65536 in
theorem codes_eq : words1.filter isCode = codes1 := rfl
theorem w_codes : ∀ c ∈ words1.filter isCode, c.before args0 about1 = true := by
  rw [codes_eq]
  intro c hc
  simp only [codes1, List.mem_cons, List.not_mem_nil, or_false] at hc
  rcases hc with rfl | rfl | rfl | rfl | rfl | rfl | rfl | rfl
  · exact w_c0
  · exact w_c1
  · exact w_c2
  · exact w_c3
  · exact w_c4
  · exact w_c5
  · exact w_c6
  · exact w_c7
set_option maxRecDepth 65536 in
theorem w_t1 : (words1.take 24).all (fun c => isCode c || c.before args0 about1) = true := by decide +kernel
set_option maxRecDepth 65536 in
theorem w_t2 : (words1.drop 24).all (fun c => isCode c || c.before args0 about1) = true := by decide +kernel
theorem w_tables : (allAtoms (Jvm.Cond.code x code maxLocals ret :: tables_1)).before args0 about1 = true := by
  rw [allAtoms_all]
  show words1.all (fun c => c.before args0 about1) = true
  refine all_split ?_ w_codes
  rw [← List.take_append_drop 24 words1, List.all_append, w_t1, w_t2]
  rfl
set_option maxRecDepth 65536 in
theorem w_case : (Jvm.Cond.and given_1 narrow_1).before args0 about1 = true := by decide +kernel
theorem w_applies : (headSpec (Jvm.Cond.code x code maxLocals ret :: tables_1) room_1).applies x e0.platform about1 = true :=
  (Spec.applies_iff w_frames).mpr ⟨w_running, w_runnable, w_alone, w_named, w_hears, w_ripe, w_room, w_tables⟩
theorem atStart : AtStart classFile x code maxLocals ret World_1 tables_1 room_1 Calls_1 rest_1 Pre_1 launch0 p0 e0 about1 theMethod args0 below0 :=
  ⟨lists_1, trivial, launch0.admits_env _ _ _, launch0.least_env, fairChoices_fair.cas, fairChoices_fair.clock, w_frames, w_args, w_heap, w_applies, trivial, trivial, w_case⟩
end start1
theorem witness_1 : WitnessClaimed_1 := ⟨start1.p0, start1.e0, start1.about1, start1.theMethod, start1.args0, start1.below0, start1.atStart⟩
end Jvm.Pilot.@@N@@
