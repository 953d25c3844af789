import JvmDerived
import JvmDerived.Pilot.@@N@@Statement
import JvmDerived.Pilot.@@N@@Code
set_option linter.unusedVariables false
set_option linter.unusedSimpArgs false
namespace Jvm.RoadKit
open Sem ClassFile Op Lib Jvm.Stand Jvm.Free Jvm.LawKit
section New
variable {p : Program} {l : Launch} {e : Env} {R : Room} {s : State} {m : MethodId} {args : Array Value} {below : List Frame} {meth : Method} {c : Code} {T : State} {locs : List Loc} {cells slots : Nat}
theorem retI (X : Stand p l e R s m args below meth c T locs cells slots) (hx : p.tables.exec = Jvm.exec) {pc : Nat} {Ls : Array Slot} {z : Int32} {rest : List Value} (hret : meth.sig.returnType = some .int) (hd : decode c.code pc = .ok (.ireturn, 1)) {fs : List Frame}
    (hl : ∀ (f : JFrame) (acts : List Action), f.method = m → f.locked = none → f.entered = [] → (doReturn e (T.setTop f) acts (some (.int z))).1 = T.setFrames fs) : Steps p.tables e below (T.setTop (mkF m pc Ls (.int z :: rest))) (T.setFrames fs) := by
  have hm' : T.vm.method? m = some meth := X.method'
  have hn : narrow .int (.int z) = .int z := rfl
  show Steps p.tables e below (T.setTop { method := m, pc := pc, locals := Ls, stack := _ :: rest, locked := none }) _
  jvm_step X.here [X.here.top, hx, hd, hm', hret, hn]
  first | (intro acts; rw [hl _ acts rfl rfl rfl]) | rw [hl _ _ rfl rfl rfl]
  exact Steps.refl _
theorem retJ (X : Stand p l e R s m args below meth c T locs cells slots) (hx : p.tables.exec = Jvm.exec) {pc : Nat} {Ls : Array Slot} {z : Int64} {rest : List Value} (hret : meth.sig.returnType = some .long) (hd : decode c.code pc = .ok (.lreturn, 1)) {fs : List Frame}
    (hl : ∀ (f : JFrame) (acts : List Action), f.method = m → f.locked = none → f.entered = [] → (doReturn e (T.setTop f) acts (some (.long z))).1 = T.setFrames fs) : Steps p.tables e below (T.setTop (mkF m pc Ls (.long z :: rest))) (T.setFrames fs) := by
  have hm' : T.vm.method? m = some meth := X.method'
  have hn : narrow .long (.long z) = .long z := rfl
  show Steps p.tables e below (T.setTop { method := m, pc := pc, locals := Ls, stack := _ :: rest, locked := none }) _
  jvm_step X.here [X.here.top, hx, hd, hm', hret, hn, narrow]
  first | (intro acts; rw [hl _ acts rfl rfl rfl]) | rw [hl _ _ rfl rfl rfl]
  exact Steps.refl _
theorem retR (X : Stand p l e R s m args below meth c T locs cells slots) (hx : p.tables.exec = Jvm.exec) {pc : Nat} {Ls : Array Slot} {z : Addr} {rest : List Value} {ty : FieldType} (hret : meth.sig.returnType = some ty) (hty : ty.isReference = true) (hd : decode c.code pc = .ok (.areturn, 1)) {fs : List Frame}
    (hl : ∀ (f : JFrame) (acts : List Action), f.method = m → f.locked = none → f.entered = [] → (doReturn e (T.setTop f) acts (some (.ref z))).1 = T.setFrames fs) : Steps p.tables e below (T.setTop (mkF m pc Ls (.ref z :: rest))) (T.setFrames fs) := by
  have hm' : T.vm.method? m = some meth := X.method'
  show Steps p.tables e below (T.setTop { method := m, pc := pc, locals := Ls, stack := _ :: rest, locked := none }) _
  jvm_step X.here [X.here.top, hx, hd, hm', hret, hty, Value.isRef]
  first | (intro acts; rw [hl _ acts rfl rfl rfl]) | rw [hl _ _ rfl rfl rfl]
  exact Steps.refl _
theorem lremM {tb : Tables} [Ours tb] {target : State} {g : JFrame} (h : At T m c below) (hx : tb.exec = Jvm.exec) (hg : g.method = m) {x y : Int64} {rest : List Value} (hd : decode c.code g.pc = .ok (.lrem, 1)) (hs : g.stack = .long y :: .long x :: rest) (hy : y ≠ 0)
    (hr : Steps tb e below (T.setTop { g with pc := g.pc + 1, stack := .long (x % y) :: rest }) target) : Steps tb e below (T.setTop g) target := by
  rw [← lrem_mod] at hr
  exact XS.lrem h hx hg hd hs hy hr
end New
end Jvm.RoadKit
namespace Jvm.Pilot.@@N@@
open Jvm Jvm.ClassFile Sem Op Lib Jvm.Free Jvm.Stand Jvm.LawKit Jvm.RoadKit Bundle Jvm.Pilot.@@N@@.Jvm.D
/-- a Java boolean -/
def bI (P : Prop) [Decidable P] : Int32 := if P then 1 else 0
theorem bI_pos {P : Prop} [Decidable P] (h : P) : bI P = (1 : Int32) := if_pos h
theorem bI_neg {P : Prop} [Decidable P] (h : ¬ P) : bI P = (0 : Int32) := if_neg h
theorem bI_0 {P : Prop} [Decidable P] (h : ¬ P) : bI P = 0 := if_neg h
theorem bI_ne0 {P : Prop} [Decidable P] (h : P) : ¬ bI P = 0 := by rw [bI_pos h]; decide
theorem bI_iff {P Q : Prop} [Decidable P] [Decidable Q] : bI P = bI Q ↔ (P ↔ Q) := by
  by_cases p : P <;> by_cases q : Q <;> simp [bI, p, q]
theorem nar_0 : nar .boolean (0 : Int32) = 0 := by decide
theorem nar_1 : nar .boolean (1 : Int32) = 1 := by decide
theorem nar_bI (P : Prop) [Decidable P] : nar .boolean (bI P) = bI P := by by_cases p : P <;> simp [bI, p] <;> decide
/-- the run from st ends, and Q holds of what it returns and leaves -/
def OG (p : Program) (e : Env) (below : List Frame) (s : State) (Q : Option Value → Heap → List Loc → Prop) (cc ss : Nat) (st : State) : Prop :=
  ∃ s₂ o, Steps p.tables e below st s₂ ∧ s₂.status = .running ∧ Ended s₂ below o ∧ ∃ v L, o = .returned v ∧ Q v s₂.heap L ∧ FrameEnd s o s₂ L cc ss
section Out
variable {p : Program} {l : Launch} {e : Env} {R : Room} {s : State} {m : MethodId} {args : Array Value} {below : List Frame} {meth : Method} {c : Code} {T : State} {locs : List Loc} {cells slots : Nat} {Q : Option Value → Heap → List Loc → Prop} {cc ss : Nat} {h : Heap}
theorem OG.step {st st' : State} (h : ∀ t, Steps p.tables e below st' t → Steps p.tables e below st t) (g : OG p e below s Q cc ss st') : OG p e below s Q cc ss st := by
  obtain ⟨s₂, o, h1, r⟩ := g
  exact ⟨s₂, o, h _ h1, r⟩
theorem OG.out (X : Stand p l e R s m args below meth c T locs cells slots) {v : Option Value} (hv : meth.sig.returnType = none → v = none) (hlk : meth.locks = false) {g : JFrame} (eT : T.heap = h)
    (hs : ∀ fs, (∀ (f : JFrame) (acts : List Action), f.method = m → f.locked = none → f.entered = [] → (doReturn e (T.setTop f) acts v).1 = T.setFrames fs) → Steps p.tables e below (T.setTop g) (T.setFrames fs))
    (hQ : Q v h locs) (hc : cells ≤ cc) (hl : slots ≤ ss) : OG p e below s Q cc ss (T.setTop g) := by
  obtain ⟨fs, hr, hrun, hended, hW, hsame⟩ := X.leave (v := v) hv hlk
  exact ⟨_, _, hs fs hr, hrun, hended, _, _, rfl, by show Q v T.heap locs; rw [eT]; exact hQ, ⟨_, rfl⟩, hW, hsame.mono hc hl⟩
theorem OG.retV (X : Stand p l e R s m args below meth c T locs cells slots) (hx : p.tables.exec = Jvm.exec) (hlk : meth.locks = false) (hret : meth.sig.returnType = none) {pc : Nat} {Ls : Array Slot} (hd : decode c.code pc = .ok (.return_, 1)) (eT : T.heap = h) (hQ : Q none h locs) (hc : cells ≤ cc) (hl : slots ≤ ss) : OG p e below s Q cc ss (T.setTop (mkF m pc Ls [])) :=
  OG.out X (fun _ => rfl) hlk eT (fun _ hr => X.returnOut hx hret hd hr) hQ hc hl
theorem OG.retI (X : Stand p l e R s m args below meth c T locs cells slots) (hx : p.tables.exec = Jvm.exec) (hlk : meth.locks = false) (hret : meth.sig.returnType = some .int) {pc : Nat} {Ls : Array Slot} {z : Int32} {rest : List Value} (hd : decode c.code pc = .ok (.ireturn, 1)) (eT : T.heap = h) (hQ : Q (some (.int z)) h locs) (hc : cells ≤ cc) (hl : slots ≤ ss) : OG p e below s Q cc ss (T.setTop (mkF m pc Ls (.int z :: rest))) :=
  OG.out X (fun h => by rw [hret] at h; cases h) hlk eT (fun _ hr => Jvm.RoadKit.retI X hx hret hd hr) hQ hc hl
theorem OG.retJ (X : Stand p l e R s m args below meth c T locs cells slots) (hx : p.tables.exec = Jvm.exec) (hlk : meth.locks = false) (hret : meth.sig.returnType = some .long) {pc : Nat} {Ls : Array Slot} {z : Int64} {rest : List Value} (hd : decode c.code pc = .ok (.lreturn, 1)) (eT : T.heap = h) (hQ : Q (some (.long z)) h locs) (hc : cells ≤ cc) (hl : slots ≤ ss) : OG p e below s Q cc ss (T.setTop (mkF m pc Ls (.long z :: rest))) :=
  OG.out X (fun h => by rw [hret] at h; cases h) hlk eT (fun _ hr => Jvm.RoadKit.retJ X hx hret hd hr) hQ hc hl
theorem OG.retR (X : Stand p l e R s m args below meth c T locs cells slots) (hx : p.tables.exec = Jvm.exec) (hlk : meth.locks = false) {ty : FieldType} (hret : meth.sig.returnType = some ty) (hty : ty.isReference = true) {pc : Nat} {Ls : Array Slot} {z : Addr} {rest : List Value} (hd : decode c.code pc = .ok (.areturn, 1)) (eT : T.heap = h) (hQ : Q (some (.ref z)) h locs) (hc : cells ≤ cc) (hl : slots ≤ ss) : OG p e below s Q cc ss (T.setTop (mkF m pc Ls (.ref z :: rest))) :=
  OG.out X (fun h => by rw [hret] at h; cases h) hlk eT (fun _ hr => Jvm.RoadKit.retR X hx hret hty hd hr) hQ hc hl
theorem OG.retZ (X : Stand p l e R s m args below meth c T locs cells slots) (hx : p.tables.exec = Jvm.exec) (hlk : meth.locks = false) (hret : meth.sig.returnType = some .boolean) {pc : Nat} {Ls : Array Slot} {z z' : Int32} {rest : List Value} (hd : decode c.code pc = .ok (.ireturn, 1)) (hz : nar .boolean z = z') (eT : T.heap = h) (hQ : Q (some (.int z')) h locs) (hc : cells ≤ cc) (hl : slots ≤ ss) : OG p e below s Q cc ss (T.setTop (mkF m pc Ls (.int z :: rest))) := by
  subst hz
  exact OG.out X (fun h => by rw [hret] at h; cases h) hlk eT (fun _ hr => retN X hx (t := .boolean) hret (by simp) hd hr) hQ hc hl
end Out
def own_g (l : List Nat) (i : Nat) : Nat := l.getD i 0
def own_vl (l : List Nat) : List Value := l.map fun c => .int (Int32.ofNat c)
def own_nx : Nat → Int32
  | 0 => (-1 : Int32)
  | c + 1 => Int32.ofNat c
def own_vn (l : List Nat) : List Value := l.map fun c => .int (own_nx c)
def own_rg (P : List Nat) : Prop := P.length = 4 ∧ ∀ i, i < 4 → own_g P i < 4
instance own_rgD (P : List Nat) : Decidable (own_rg P) := by unfold own_rg; infer_instance
def own_rt (P : List Nat) : Nat → Nat → Nat
  | 0, x => x
  | f + 1, x => if own_g P x = x then x else own_rt P f (own_g P x)
def own_cp (r : Nat) : Nat → List Nat → Nat → List Nat
  | 0, P, _ => P
  | f + 1, P, x => if x = r then P else own_cp r f (P.set x r) (own_g P x)
def own_ce (r : Nat) : Nat → List Nat → Nat → Nat
  | 0, _, x => x
  | f + 1, P, x => if x = r then x else own_ce r f (P.set x r) (own_g P x)
def own_wk (N : List Nat) : Nat → Nat → Bool
  | 0, c => c == 0
  | f + 1, c => c == 0 || own_wk N f (own_g N (c - 1))
/-- what find asks of the parents -/
def own_fok (P : List Nat) (x : Nat) : Prop := own_rg P ∧ own_g P (own_rt P 4 x) = own_rt P 4 x ∧ own_rt P 4 x < 4 ∧ own_ce (own_rt P 4 x) 4 P x = own_rt P 4 x
instance own_fokD (P : List Nat) (x : Nat) : Decidable (own_fok P x) := by unfold own_fok; infer_instance
def own_fc (P : List Nat) (x : Nat) : List Nat := own_cp (own_rt P 4 x) 4 P x
theorem own_ti {n : Nat} (h : n < 2147483648) : (Int32.ofNat n).toInt = n := Int32.toInt_ofNat_of_lt h
theorem own_cl {n : Nat} (h : n < 2147483648) : (Int32.ofNat n).toNatClampNeg = n := by
  show (Int32.ofNat n).toInt.toNat = n
  rw [own_ti h]; rfl
theorem own_lt {a b : Nat} (ha : a < 2147483648) (hb : b < 2147483648) : Int32.ofNat a < Int32.ofNat b ↔ a < b := by
  rw [Int32.lt_iff_toInt_lt, own_ti ha, own_ti hb]; omega
theorem own_eqn {a b : Nat} (ha : a < 2147483648) (hb : b < 2147483648) (h : Int32.ofNat a = Int32.ofNat b) : a = b := by
  have := congrArg Int32.toInt h
  rw [own_ti ha, own_ti hb] at this; omega
theorem own_add (a b : Nat) : Int32.ofNat a + Int32.ofNat b = Int32.ofNat (a + b) := (Int32.ofNat_add a b).symm
theorem own_i3 {n z : Nat} (h : n < z) (hz : z < 2147483648) : ¬ Int32.ofNat n < 0 ∧ Int32.ofNat n < Int32.ofNat z ∧ (Int32.ofNat n).toNatClampNeg = n := by
  refine ⟨?_, (own_lt (by omega) hz).mpr h, own_cl (by omega)⟩
  rw [Int32.lt_iff_toInt_lt, own_ti (by omega)]
  have : (0 : Int32).toInt = 0 := by decide
  omega
theorem own_x4 {n : Nat} (h : n < 4) : ¬ Int32.ofNat n < 0 ∧ Int32.ofNat n < (4 : Int32) ∧ (Int32.ofNat n).toNatClampNeg = n := own_i3 (z := 4) h (by decide)
theorem own_x5 {n : Nat} (h : n < 4) : ¬ Int32.ofNat n < 0 ∧ Int32.ofNat n < (5 : Int32) ∧ (Int32.ofNat n).toNatClampNeg = n := own_i3 (z := 5) (by omega) (by decide)
theorem own_x5s {n : Nat} (h : n < 4) : ¬ (Int32.ofNat n + (1 : Int32)) < 0 ∧ (Int32.ofNat n + (1 : Int32)) < (5 : Int32) ∧ (Int32.ofNat n + (1 : Int32)).toNatClampNeg = n + 1 := by
  rw [show Int32.ofNat n + (1 : Int32) = Int32.ofNat (n + 1) from own_add n 1]; exact own_i3 (z := 5) (by omega) (by decide)
theorem own_z5 {j : Int32} {n : Nat} (hj : j.toNatClampNeg = n) (h : n < 5) : ([(.int (0 : Int32)), (.int (0 : Int32)), (.int (0 : Int32)), (.int (0 : Int32)), (.int (0 : Int32))] : List Value).getD j.toNatClampNeg (.int (0 : Int32)) = .int (0 : Int32) := by
  rw [hj]
  match n, h with
  | 0, _ => rfl
  | 1, _ => rfl
  | 2, _ => rfl
  | 3, _ => rfl
  | 4, _ => rfl
theorem own_get {l : List Nat} {x : Nat} (hl : l.length = 4) (h : x < 4) : (own_vl l).getD (Int32.ofNat x).toNatClampNeg (.int (0 : Int32)) = .int (Int32.ofNat (own_g l x)) := by
  rw [own_cl (by omega)]
  simp [own_vl, own_g, hl, h]
theorem own_getn {l : List Nat} {x : Nat} (hl : l.length = 4) (h : x < 4) : (own_vn l).getD (Int32.ofNat x).toNatClampNeg (.int (0 : Int32)) = .int (own_nx (own_g l x)) := by
  rw [own_cl (by omega)]
  simp [own_vn, own_g, hl, h]
theorem own_len {l : List Nat} {x : Nat} (hl : l.length = 4) (h : x < 4) : x < (own_vl l).length := by simp [own_vl, hl, h]
theorem own_lenn {l : List Nat} {x : Nat} (hl : l.length = 4) (h : x < 4) : x < (own_vn l).length := by simp [own_vn, hl, h]
theorem own_set (l : List Nat) (x v : Nat) : (own_vl l).set x (.int (Int32.ofNat v)) = own_vl (l.set x v) := by
  unfold own_vl; rw [List.map_set]
theorem own_setn (l : List Nat) (x v : Nat) : (own_vn l).set x (.int (own_nx v)) = own_vn (l.set x v) := by
  unfold own_vn; rw [List.map_set]
theorem own_gset (l : List Nat) {x v i : Nat} (hl : l.length = 4) (hi : i < 4) : own_g (l.set x v) i = if x = i then v else own_g l i := by
  unfold own_g
  rw [List.getD_eq_getElem?_getD, List.getD_eq_getElem?_getD, List.getElem?_set]
  by_cases e : x = i
  · subst e; simp [hl, hi]
  · simp [e]
theorem own_rgset {l : List Nat} {x v : Nat} (h : own_rg l) (hv : v < 4) : own_rg (l.set x v) := by
  refine ⟨by rw [List.length_set]; exact h.1, fun i hi => ?_⟩
  rw [own_gset l h.1 hi]; split
  · exact hv
  · exact h.2 i hi
-- find, loop 1
theorem own_rt_fix {P : List Nat} {y : Nat} (h : own_g P y = y) : ∀ f, own_rt P f y = y
  | 0 => rfl
  | f + 1 => if_pos h
theorem own_rt_step {P : List Nat} {f y r : Nat} (h : own_rt P f y = r) (hr : own_g P r = r) (hn : ¬ own_g P y = y) : ∃ f', f = f' + 1 ∧ own_rt P f' (own_g P y) = r := by
  cases f with
  | zero => exact absurd (by have : y = r := h; rw [this]; exact hr) hn
  | succ f => exact ⟨f, rfl, (if_neg hn).symm.trans h⟩
-- find, loop 2
theorem own_ce_step {P : List Nat} {f y r : Nat} (h : own_ce r f P y = r) (hn : ¬ y = r) : ∃ f', f = f' + 1 ∧ own_ce r f' (P.set y r) (own_g P y) = r ∧ own_cp r f P y = own_cp r f' (P.set y r) (own_g P y) := by
  cases f with
  | zero => exact absurd h hn
  | succ f => exact ⟨f, rfl, (if_neg hn).symm.trans h, if_neg hn⟩
theorem own_cp_fix {P : List Nat} {r : Nat} : ∀ f, own_cp r f P r = P
  | 0 => rfl
  | f + 1 => if_pos rfl
-- join
theorem own_wk_step {N : List Nat} {f c : Nat} (h : own_wk N f (c + 1) = true) : ∃ f', f = f' + 1 ∧ own_wk N f' (own_g N c) = true := by
  cases f with
  | zero => exact absurd h (by simp [own_wk])
  | succ f => refine ⟨f, rfl, ?_⟩; simpa [own_wk] using h
def own_sm (Z : List Nat) (ra rb : Nat) : Nat := if own_g Z rb < own_g Z ra then rb else ra
def own_bg (Z : List Nat) (ra rb : Nat) : Nat := if own_g Z rb < own_g Z ra then ra else rb
abbrev own_S : Type := List Nat × List Nat × List Nat × List Nat
def own_jn (s : own_S) (a b : Nat) : own_S :=
  let P1 := own_fc s.1 a
  let P2 := own_fc P1 b
  let ra := own_rt s.1 4 a
  let rb := own_rt P1 4 b
  let sm := own_sm s.2.1 ra rb
  let bg := own_bg s.2.1 ra rb
  if ra = rb then (P2, s.2.1, s.2.2.1, s.2.2.2)
  else (P2.set sm bg, s.2.1.set bg (own_g s.2.1 bg + own_g s.2.1 sm), s.2.2.1.set (own_g s.2.2.2 bg) (sm + 1), s.2.2.2.set bg (own_g s.2.2.2 sm))
def own_jok (s : own_S) (a b : Nat) : Prop :=
  own_fok s.1 a ∧ own_fok (own_fc s.1 a) b ∧ own_rg (own_fc (own_fc s.1 a) b) ∧ (s.2.1.length = 4 ∧ ∀ i, i < 4 → own_g s.2.1 i ≤ 4) ∧ (s.2.2.1.length = 4 ∧ ∀ i, i < 4 → own_g s.2.2.1 i ≤ 4) ∧ own_rg s.2.2.2 ∧
    own_wk s.2.2.1 4 (own_sm s.2.1 (own_rt s.1 4 a) (own_rt (own_fc s.1 a) 4 b) + 1) = true
instance own_jokD (s : own_S) (a b : Nat) : Decidable (own_jok s a b) := by unfold own_jok; infer_instance
-- relabel
def own_rs (la lb i : Nat) (l : List Nat) : List Nat := if own_g l i = la then l.set i lb else l
def own_rl (l : List Nat) (a b : Nat) : List Nat := own_rs (own_g l a) (own_g l b) 3 (own_rs (own_g l a) (own_g l b) 2 (own_rs (own_g l a) (own_g l b) 1 (own_rs (own_g l a) (own_g l b) 0 l)))
theorem own_rsg {la lb i : Nat} {l : List Nat} (h : own_rg l) (hb : lb < 4) : own_rg (own_rs la lb i l) := by
  unfold own_rs; split
  · exact own_rgset h hb
  · exact h
theorem own_e4 {l : List Nat} {i x : Nat} (h : own_rg l) (hi : i < 4) (hx : x < 4) (e : Int32.ofNat (own_g l i) = Int32.ofNat x) : own_g l i = x := own_eqn (by have := h.2 i hi; omega) (by omega) e
-- the last look
def own_chk (P lab : List Nat) (q0 q1 q2 q3 x : Nat) : Prop :=
  own_fok P q0 ∧ own_fok (own_fc P q0) q1 ∧ own_fok (own_fc (own_fc P q0) q1) q2 ∧ own_fok (own_fc (own_fc (own_fc P q0) q1) q2) q3 ∧ own_fok (own_fc (own_fc (own_fc (own_fc P q0) q1) q2) q3) x ∧ own_rg lab ∧
  own_rg (((([0, 0, 0, 0].set q0 (own_rt P 4 q0)).set q1 (own_rt (own_fc P q0) 4 q1)).set q2 (own_rt (own_fc (own_fc P q0) q1) 4 q2)).set q3 (own_rt (own_fc (own_fc (own_fc P q0) q1) q2) 4 q3)) ∧
  own_rt (own_fc (own_fc (own_fc (own_fc P q0) q1) q2) q3) 4 x = own_g (((([0, 0, 0, 0].set q0 (own_rt P 4 q0)).set q1 (own_rt (own_fc P q0) 4 q1)).set q2 (own_rt (own_fc (own_fc P q0) q1) 4 q2)).set q3 (own_rt (own_fc (own_fc (own_fc P q0) q1) q2) 4 q3)) x ∧
  (∀ i, i < 4 → own_g lab (own_g (((([0, 0, 0, 0].set q0 (own_rt P 4 q0)).set q1 (own_rt (own_fc P q0) 4 q1)).set q2 (own_rt (own_fc (own_fc P q0) q1) 4 q2)).set q3 (own_rt (own_fc (own_fc (own_fc P q0) q1) q2) 4 q3)) i) = own_g lab i) ∧
  (∀ i, i < 4 → ∀ j, j < 4 → (own_g (((([0, 0, 0, 0].set q0 (own_rt P 4 q0)).set q1 (own_rt (own_fc P q0) 4 q1)).set q2 (own_rt (own_fc (own_fc P q0) q1) 4 q2)).set q3 (own_rt (own_fc (own_fc (own_fc P q0) q1) q2) 4 q3)) i = own_g (((([0, 0, 0, 0].set q0 (own_rt P 4 q0)).set q1 (own_rt (own_fc P q0) 4 q1)).set q2 (own_rt (own_fc (own_fc P q0) q1) 4 q2)).set q3 (own_rt (own_fc (own_fc (own_fc P q0) q1) q2) 4 q3)) j ↔ own_g lab i = own_g lab j))
instance own_chkD (P lab : List Nat) (q0 q1 q2 q3 x : Nat) : Decidable (own_chk P lab q0 q1 q2 q3 x) := by unfold own_chk; infer_instance
def own_R0 : List (own_S × List Nat) := [(([0, 1, 2, 3], [1, 1, 1, 1], [0, 0, 0, 0], [0, 1, 2, 3]), [0, 1, 2, 3])]
def own_R1 : List (own_S × List Nat) := [(([0, 0, 2, 3], [2, 1, 1, 1], [2, 0, 0, 0], [1, 1, 2, 3]), [0, 0, 2, 3]), (([0, 1, 0, 3], [2, 1, 1, 1], [3, 0, 0, 0], [2, 1, 2, 3]), [0, 1, 0, 3]), (([0, 1, 1, 3], [1, 2, 1, 1], [0, 3, 0, 0], [0, 2, 2, 3]), [0, 1, 1, 3]), (([0, 1, 2, 0], [2, 1, 1, 1], [4, 0, 0, 0], [3, 1, 2, 3]), [0, 1, 2, 0]), (([0, 1, 2, 1], [1, 2, 1, 1], [0, 4, 0, 0], [0, 3, 2, 3]), [0, 1, 2, 1]), (([0, 1, 2, 2], [1, 1, 2, 1], [0, 0, 4, 0], [0, 1, 3, 3]), [0, 1, 2, 2]), (([0, 1, 2, 3], [1, 1, 1, 1], [0, 0, 0, 0], [0, 1, 2, 3]), [0, 1, 2, 3]), (([0, 1, 3, 3], [1, 1, 1, 2], [0, 0, 0, 3], [0, 1, 2, 2]), [0, 1, 3, 3]), (([0, 2, 2, 3], [1, 1, 2, 1], [0, 0, 2, 0], [0, 1, 1, 3]), [0, 2, 2, 3]), (([0, 3, 2, 3], [1, 1, 1, 2], [0, 0, 0, 2], [0, 1, 2, 1]), [0, 3, 2, 3]), (([1, 1, 2, 3], [1, 2, 1, 1], [0, 1, 0, 0], [0, 0, 2, 3]), [1, 1, 2, 3]), (([2, 1, 2, 3], [1, 1, 2, 1], [0, 0, 1, 0], [0, 1, 0, 3]), [2, 1, 2, 3]), (([3, 1, 2, 3], [1, 1, 1, 2], [0, 0, 0, 1], [0, 1, 2, 0]), [3, 1, 2, 3])]
def own_R2 : List (own_S × List Nat) := [(([0, 0, 0, 3], [3, 1, 1, 1], [2, 3, 0, 0], [2, 1, 2, 3]), [0, 0, 0, 3]), (([0, 0, 0, 3], [3, 1, 1, 1], [2, 3, 0, 0], [2, 1, 2, 3]), [2, 2, 2, 3]), (([0, 0, 0, 3], [3, 1, 1, 1], [3, 0, 2, 0], [1, 1, 2, 3]), [0, 0, 0, 3]), (([0, 0, 0, 3], [3, 1, 1, 1], [3, 0, 2, 0], [1, 1, 2, 3]), [1, 1, 1, 3]), (([0, 0, 2, 0], [3, 1, 1, 1], [2, 4, 0, 0], [3, 1, 2, 3]), [0, 0, 2, 0]), (([0, 0, 2, 0], [3, 1, 1, 1], [2, 4, 0, 0], [3, 1, 2, 3]), [3, 3, 2, 3]), (([0, 0, 2, 0], [3, 1, 1, 1], [4, 0, 0, 2], [1, 1, 2, 3]), [0, 0, 2, 0]), (([0, 0, 2, 0], [3, 1, 1, 1], [4, 0, 0, 2], [1, 1, 2, 3]), [1, 1, 2, 1]), (([0, 0, 2, 2], [2, 1, 2, 1], [2, 0, 4, 0], [1, 1, 3, 3]), [0, 0, 2, 2]), (([0, 0, 2, 3], [2, 1, 1, 1], [2, 0, 0, 0], [1, 1, 2, 3]), [0, 0, 2, 3]), (([0, 0, 3, 3], [2, 1, 1, 2], [2, 0, 0, 3], [1, 1, 2, 2]), [0, 0, 3, 3]), (([0, 1, 0, 0], [3, 1, 1, 1], [3, 0, 4, 0], [3, 1, 2, 3]), [0, 1, 0, 0]), (([0, 1, 0, 0], [3, 1, 1, 1], [3, 0, 4, 0], [3, 1, 2, 3]), [3, 1, 3, 3]), (([0, 1, 0, 0], [3, 1, 1, 1], [4, 0, 0, 3], [2, 1, 2, 3]), [0, 1, 0, 0]), (([0, 1, 0, 0], [3, 1, 1, 1], [4, 0, 0, 3], [2, 1, 2, 3]), [2, 1, 2, 2]), (([0, 1, 0, 1], [2, 2, 1, 1], [3, 4, 0, 0], [2, 3, 2, 3]), [0, 1, 0, 1]), (([0, 1, 0, 3], [2, 1, 1, 1], [3, 0, 0, 0], [2, 1, 2, 3]), [0, 1, 0, 3]), (([0, 1, 1, 0], [2, 2, 1, 1], [4, 3, 0, 0], [3, 2, 2, 3]), [0, 1, 1, 0]), (([0, 1, 1, 1], [1, 3, 1, 1], [0, 3, 4, 0], [0, 3, 2, 3]), [0, 1, 1, 1]), (([0, 1, 1, 1], [1, 3, 1, 1], [0, 3, 4, 0], [0, 3, 2, 3]), [0, 3, 3, 3]), (([0, 1, 1, 1], [1, 3, 1, 1], [0, 4, 0, 3], [0, 2, 2, 3]), [0, 1, 1, 1]), (([0, 1, 1, 1], [1, 3, 1, 1], [0, 4, 0, 3], [0, 2, 2, 3]), [0, 2, 2, 2]), (([0, 1, 1, 3], [1, 2, 1, 1], [0, 3, 0, 0], [0, 2, 2, 3]), [0, 1, 1, 3]), (([0, 1, 2, 0], [2, 1, 1, 1], [4, 0, 0, 0], [3, 1, 2, 3]), [0, 1, 2, 0]), (([0, 1, 2, 1], [1, 2, 1, 1], [0, 4, 0, 0], [0, 3, 2, 3]), [0, 1, 2, 1]), (([0, 1, 2, 2], [1, 1, 2, 1], [0, 0, 4, 0], [0, 1, 3, 3]), [0, 1, 2, 2]), (([0, 1, 2, 3], [1, 1, 1, 1], [0, 0, 0, 0], [0, 1, 2, 3]), [0, 1, 2, 3]), (([0, 1, 3, 3], [1, 1, 1, 2], [0, 0, 0, 3], [0, 1, 2, 2]), [0, 1, 3, 3]), (([0, 2, 2, 0], [2, 1, 2, 1], [4, 0, 2, 0], [3, 1, 1, 3]), [0, 2, 2, 0]), (([0, 2, 2, 2], [1, 1, 3, 1], [0, 0, 4, 2], [0, 1, 1, 3]), [0, 1, 1, 1]), (([0, 2, 2, 2], [1, 1, 3, 1], [0, 0, 4, 2], [0, 1, 1, 3]), [0, 2, 2, 2]), (([0, 2, 2, 2], [1, 1, 3, 1], [0, 4, 2, 0], [0, 1, 3, 3]), [0, 2, 2, 2]), (([0, 2, 2, 2], [1, 1, 3, 1], [0, 4, 2, 0], [0, 1, 3, 3]), [0, 3, 3, 3]), (([0, 2, 2, 3], [1, 1, 2, 1], [0, 0, 2, 0], [0, 1, 1, 3]), [0, 2, 2, 3]), (([0, 3, 0, 3], [2, 1, 1, 2], [3, 0, 0, 2], [2, 1, 2, 1]), [0, 3, 0, 3]), (([0, 3, 2, 3], [1, 1, 1, 2], [0, 0, 0, 2], [0, 1, 2, 1]), [0, 3, 2, 3]), (([0, 3, 3, 3], [1, 1, 1, 3], [0, 0, 2, 3], [0, 1, 2, 1]), [0, 1, 1, 1]), (([0, 3, 3, 3], [1, 1, 1, 3], [0, 0, 2, 3], [0, 1, 2, 1]), [0, 3, 3, 3]), (([0, 3, 3, 3], [1, 1, 1, 3], [0, 3, 0, 2], [0, 1, 2, 2]), [0, 2, 2, 2]), (([0, 3, 3, 3], [1, 1, 1, 3], [0, 3, 0, 2], [0, 1, 2, 2]), [0, 3, 3, 3]), (([1, 1, 1, 3], [1, 3, 1, 1], [0, 3, 1, 0], [0, 0, 2, 3]), [0, 0, 0, 3]), (([1, 1, 1, 3], [1, 3, 1, 1], [0, 3, 1, 0], [0, 0, 2, 3]), [1, 1, 1, 3]), (([1, 1, 1, 3], [1, 3, 1, 1], [3, 1, 0, 0], [0, 2, 2, 3]), [1, 1, 1, 3]), (([1, 1, 1, 3], [1, 3, 1, 1], [3, 1, 0, 0], [0, 2, 2, 3]), [2, 2, 2, 3]), (([1, 1, 2, 1], [1, 3, 1, 1], [0, 4, 0, 1], [0, 0, 2, 3]), [0, 0, 2, 0]), (([1, 1, 2, 1], [1, 3, 1, 1], [0, 4, 0, 1], [0, 0, 2, 3]), [1, 1, 2, 1]), (([1, 1, 2, 1], [1, 3, 1, 1], [4, 1, 0, 0], [0, 3, 2, 3]), [1, 1, 2, 1]), (([1, 1, 2, 1], [1, 3, 1, 1], [4, 1, 0, 0], [0, 3, 2, 3]), [3, 3, 2, 3]), (([1, 1, 2, 2], [1, 2, 2, 1], [0, 1, 4, 0], [0, 0, 3, 3]), [1, 1, 2, 2]), (([1, 1, 2, 3], [1, 2, 1, 1], [0, 1, 0, 0], [0, 0, 2, 3]), [1, 1, 2, 3]), (([1, 1, 3, 3], [1, 2, 1, 2], [0, 1, 0, 3], [0, 0, 2, 2]), [1, 1, 3, 3]), (([2, 1, 2, 1], [1, 2, 2, 1], [0, 4, 1, 0], [0, 3, 0, 3]), [2, 1, 2, 1]), (([2, 1, 2, 2], [1, 1, 3, 1], [0, 0, 4, 1], [0, 1, 0, 3]), [0, 1, 0, 0]), (([2, 1, 2, 2], [1, 1, 3, 1], [0, 0, 4, 1], [0, 1, 0, 3]), [2, 1, 2, 2]), (([2, 1, 2, 2], [1, 1, 3, 1], [4, 0, 1, 0], [0, 1, 3, 3]), [2, 1, 2, 2]), (([2, 1, 2, 2], [1, 1, 3, 1], [4, 0, 1, 0], [0, 1, 3, 3]), [3, 1, 3, 3]), (([2, 1, 2, 3], [1, 1, 2, 1], [0, 0, 1, 0], [0, 1, 0, 3]), [2, 1, 2, 3]), (([2, 2, 2, 3], [1, 1, 3, 1], [0, 1, 2, 0], [0, 1, 0, 3]), [0, 0, 0, 3]), (([2, 2, 2, 3], [1, 1, 3, 1], [0, 1, 2, 0], [0, 1, 0, 3]), [2, 2, 2, 3]), (([2, 2, 2, 3], [1, 1, 3, 1], [2, 0, 1, 0], [0, 1, 1, 3]), [1, 1, 1, 3]), (([2, 2, 2, 3], [1, 1, 3, 1], [2, 0, 1, 0], [0, 1, 1, 3]), [2, 2, 2, 3]), (([2, 3, 2, 3], [1, 1, 2, 2], [0, 0, 1, 2], [0, 1, 0, 1]), [2, 3, 2, 3]), (([3, 1, 1, 3], [1, 2, 1, 2], [0, 3, 0, 1], [0, 2, 2, 0]), [3, 1, 1, 3]), (([3, 1, 2, 3], [1, 1, 1, 2], [0, 0, 0, 1], [0, 1, 2, 0]), [3, 1, 2, 3]), (([3, 1, 3, 3], [1, 1, 1, 3], [0, 0, 1, 3], [0, 1, 2, 0]), [0, 1, 0, 0]), (([3, 1, 3, 3], [1, 1, 1, 3], [0, 0, 1, 3], [0, 1, 2, 0]), [3, 1, 3, 3]), (([3, 1, 3, 3], [1, 1, 1, 3], [3, 0, 0, 1], [0, 1, 2, 2]), [2, 1, 2, 2]), (([3, 1, 3, 3], [1, 1, 1, 3], [3, 0, 0, 1], [0, 1, 2, 2]), [3, 1, 3, 3]), (([3, 2, 2, 3], [1, 1, 2, 2], [0, 0, 2, 1], [0, 1, 1, 0]), [3, 2, 2, 3]), (([3, 3, 2, 3], [1, 1, 1, 3], [0, 1, 0, 2], [0, 1, 2, 0]), [0, 0, 2, 0]), (([3, 3, 2, 3], [1, 1, 1, 3], [0, 1, 0, 2], [0, 1, 2, 0]), [3, 3, 2, 3]), (([3, 3, 2, 3], [1, 1, 1, 3], [2, 0, 0, 1], [0, 1, 2, 1]), [1, 1, 2, 1]), (([3, 3, 2, 3], [1, 1, 1, 3], [2, 0, 0, 1], [0, 1, 2, 1]), [3, 3, 2, 3])]
def own_R3 : List (own_S × List Nat) := [(([0, 0, 0, 0], [4, 1, 1, 1], [2, 3, 4, 0], [3, 1, 2, 3]), [0, 0, 0, 0]), (([0, 0, 0, 0], [4, 1, 1, 1], [2, 3, 4, 0], [3, 1, 2, 3]), [2, 2, 2, 2]), (([0, 0, 0, 0], [4, 1, 1, 1], [2, 3, 4, 0], [3, 1, 2, 3]), [3, 3, 3, 3]), (([0, 0, 0, 0], [4, 1, 1, 1], [2, 4, 0, 3], [2, 1, 2, 3]), [0, 0, 0, 0]), (([0, 0, 0, 0], [4, 1, 1, 1], [2, 4, 0, 3], [2, 1, 2, 3]), [2, 2, 2, 2]), (([0, 0, 0, 0], [4, 1, 1, 1], [2, 4, 0, 3], [2, 1, 2, 3]), [3, 3, 3, 3]), (([0, 0, 0, 0], [4, 1, 1, 1], [3, 0, 4, 2], [1, 1, 2, 3]), [0, 0, 0, 0]), (([0, 0, 0, 0], [4, 1, 1, 1], [3, 0, 4, 2], [1, 1, 2, 3]), [1, 1, 1, 1]), (([0, 0, 0, 0], [4, 1, 1, 1], [3, 0, 4, 2], [1, 1, 2, 3]), [3, 3, 3, 3]), (([0, 0, 0, 0], [4, 1, 1, 1], [3, 4, 2, 0], [3, 1, 2, 3]), [0, 0, 0, 0]), (([0, 0, 0, 0], [4, 1, 1, 1], [3, 4, 2, 0], [3, 1, 2, 3]), [1, 1, 1, 1]), (([0, 0, 0, 0], [4, 1, 1, 1], [3, 4, 2, 0], [3, 1, 2, 3]), [3, 3, 3, 3]), (([0, 0, 0, 0], [4, 1, 1, 1], [4, 0, 2, 3], [1, 1, 2, 3]), [0, 0, 0, 0]), (([0, 0, 0, 0], [4, 1, 1, 1], [4, 0, 2, 3], [1, 1, 2, 3]), [1, 1, 1, 1]), (([0, 0, 0, 0], [4, 1, 1, 1], [4, 0, 2, 3], [1, 1, 2, 3]), [2, 2, 2, 2]), (([0, 0, 0, 0], [4, 1, 1, 1], [4, 3, 0, 2], [2, 1, 2, 3]), [0, 0, 0, 0]), (([0, 0, 0, 0], [4, 1, 1, 1], [4, 3, 0, 2], [2, 1, 2, 3]), [1, 1, 1, 1]), (([0, 0, 0, 0], [4, 1, 1, 1], [4, 3, 0, 2], [2, 1, 2, 3]), [2, 2, 2, 2]), (([0, 0, 0, 1], [4, 2, 1, 1], [3, 4, 2, 0], [3, 3, 2, 3]), [0, 0, 0, 0]), (([0, 0, 0, 2], [4, 1, 2, 1], [2, 3, 4, 0], [3, 1, 3, 3]), [0, 0, 0, 0]), (([0, 0, 0, 3], [3, 1, 1, 1], [2, 3, 0, 0], [2, 1, 2, 3]), [0, 0, 0, 3]), (([0, 0, 0, 3], [3, 1, 1, 1], [2, 3, 0, 0], [2, 1, 2, 3]), [2, 2, 2, 3]), (([0, 0, 0, 3], [3, 1, 1, 1], [3, 0, 2, 0], [1, 1, 2, 3]), [0, 0, 0, 3]), (([0, 0, 0, 3], [3, 1, 1, 1], [3, 0, 2, 0], [1, 1, 2, 3]), [1, 1, 1, 3]), (([0, 0, 1, 0], [4, 2, 1, 1], [4, 3, 0, 2], [2, 2, 2, 3]), [0, 0, 0, 0]), (([0, 0, 2, 0], [3, 1, 1, 1], [2, 4, 0, 0], [3, 1, 2, 3]), [0, 0, 2, 0]), (([0, 0, 2, 0], [3, 1, 1, 1], [2, 4, 0, 0], [3, 1, 2, 3]), [3, 3, 2, 3]), (([0, 0, 2, 0], [3, 1, 1, 1], [4, 0, 0, 2], [1, 1, 2, 3]), [0, 0, 2, 0]), (([0, 0, 2, 0], [3, 1, 1, 1], [4, 0, 0, 2], [1, 1, 2, 3]), [1, 1, 2, 1]), (([0, 0, 2, 2], [2, 1, 2, 1], [2, 0, 4, 0], [1, 1, 3, 3]), [0, 0, 2, 2]), (([0, 0, 2, 3], [2, 1, 1, 1], [2, 0, 0, 0], [1, 1, 2, 3]), [0, 0, 2, 3]), (([0, 0, 3, 0], [4, 1, 1, 2], [2, 4, 0, 3], [2, 1, 2, 2]), [0, 0, 0, 0]), (([0, 0, 3, 3], [2, 1, 1, 2], [2, 0, 0, 3], [1, 1, 2, 2]), [0, 0, 3, 3]), (([0, 1, 0, 0], [3, 1, 1, 1], [3, 0, 4, 0], [3, 1, 2, 3]), [0, 1, 0, 0]), (([0, 1, 0, 0], [3, 1, 1, 1], [3, 0, 4, 0], [3, 1, 2, 3]), [3, 1, 3, 3]), (([0, 1, 0, 0], [3, 1, 1, 1], [4, 0, 0, 3], [2, 1, 2, 3]), [0, 1, 0, 0]), (([0, 1, 0, 0], [3, 1, 1, 1], [4, 0, 0, 3], [2, 1, 2, 3]), [2, 1, 2, 2]), (([0, 1, 0, 1], [2, 2, 1, 1], [3, 4, 0, 0], [2, 3, 2, 3]), [0, 1, 0, 1]), (([0, 1, 0, 3], [2, 1, 1, 1], [3, 0, 0, 0], [2, 1, 2, 3]), [0, 1, 0, 3]), (([0, 1, 1, 0], [2, 2, 1, 1], [4, 3, 0, 0], [3, 2, 2, 3]), [0, 1, 1, 0]), (([0, 1, 1, 1], [1, 3, 1, 1], [0, 3, 4, 0], [0, 3, 2, 3]), [0, 1, 1, 1]), (([0, 1, 1, 1], [1, 3, 1, 1], [0, 3, 4, 0], [0, 3, 2, 3]), [0, 3, 3, 3]), (([0, 1, 1, 1], [1, 3, 1, 1], [0, 4, 0, 3], [0, 2, 2, 3]), [0, 1, 1, 1]), (([0, 1, 1, 1], [1, 3, 1, 1], [0, 4, 0, 3], [0, 2, 2, 3]), [0, 2, 2, 2]), (([0, 1, 1, 3], [1, 2, 1, 1], [0, 3, 0, 0], [0, 2, 2, 3]), [0, 1, 1, 3]), (([0, 1, 2, 0], [2, 1, 1, 1], [4, 0, 0, 0], [3, 1, 2, 3]), [0, 1, 2, 0]), (([0, 1, 2, 1], [1, 2, 1, 1], [0, 4, 0, 0], [0, 3, 2, 3]), [0, 1, 2, 1]), (([0, 1, 2, 2], [1, 1, 2, 1], [0, 0, 4, 0], [0, 1, 3, 3]), [0, 1, 2, 2]), (([0, 1, 2, 3], [1, 1, 1, 1], [0, 0, 0, 0], [0, 1, 2, 3]), [0, 1, 2, 3]), (([0, 1, 3, 3], [1, 1, 1, 2], [0, 0, 0, 3], [0, 1, 2, 2]), [0, 1, 3, 3]), (([0, 2, 0, 0], [4, 1, 2, 1], [4, 0, 2, 3], [1, 1, 1, 3]), [0, 0, 0, 0]), (([0, 2, 2, 0], [2, 1, 2, 1], [4, 0, 2, 0], [3, 1, 1, 3]), [0, 2, 2, 0]), (([0, 2, 2, 2], [1, 1, 3, 1], [0, 0, 4, 2], [0, 1, 1, 3]), [0, 1, 1, 1]), (([0, 2, 2, 2], [1, 1, 3, 1], [0, 0, 4, 2], [0, 1, 1, 3]), [0, 2, 2, 2]), (([0, 2, 2, 2], [1, 1, 3, 1], [0, 4, 2, 0], [0, 1, 3, 3]), [0, 2, 2, 2]), (([0, 2, 2, 2], [1, 1, 3, 1], [0, 4, 2, 0], [0, 1, 3, 3]), [0, 3, 3, 3]), (([0, 2, 2, 3], [1, 1, 2, 1], [0, 0, 2, 0], [0, 1, 1, 3]), [0, 2, 2, 3]), (([0, 3, 0, 0], [4, 1, 1, 2], [3, 0, 4, 2], [1, 1, 2, 1]), [0, 0, 0, 0]), (([0, 3, 0, 3], [2, 1, 1, 2], [3, 0, 0, 2], [2, 1, 2, 1]), [0, 3, 0, 3]), (([0, 3, 2, 3], [1, 1, 1, 2], [0, 0, 0, 2], [0, 1, 2, 1]), [0, 3, 2, 3]), (([0, 3, 3, 3], [1, 1, 1, 3], [0, 0, 2, 3], [0, 1, 2, 1]), [0, 1, 1, 1]), (([0, 3, 3, 3], [1, 1, 1, 3], [0, 0, 2, 3], [0, 1, 2, 1]), [0, 3, 3, 3]), (([0, 3, 3, 3], [1, 1, 1, 3], [0, 3, 0, 2], [0, 1, 2, 2]), [0, 2, 2, 2]), (([0, 3, 3, 3], [1, 1, 1, 3], [0, 3, 0, 2], [0, 1, 2, 2]), [0, 3, 3, 3]), (([1, 1, 0, 1], [2, 4, 1, 1], [3, 4, 0, 1], [2, 2, 2, 3]), [1, 1, 1, 1]), (([1, 1, 1, 0], [2, 4, 1, 1], [4, 3, 1, 0], [3, 3, 2, 3]), [1, 1, 1, 1]), (([1, 1, 1, 1], [1, 4, 1, 1], [0, 3, 4, 1], [0, 0, 2, 3]), [0, 0, 0, 0]), (([1, 1, 1, 1], [1, 4, 1, 1], [0, 3, 4, 1], [0, 0, 2, 3]), [1, 1, 1, 1]), (([1, 1, 1, 1], [1, 4, 1, 1], [0, 3, 4, 1], [0, 0, 2, 3]), [3, 3, 3, 3]), (([1, 1, 1, 1], [1, 4, 1, 1], [0, 4, 1, 3], [0, 0, 2, 3]), [0, 0, 0, 0]), (([1, 1, 1, 1], [1, 4, 1, 1], [0, 4, 1, 3], [0, 0, 2, 3]), [1, 1, 1, 1]), (([1, 1, 1, 1], [1, 4, 1, 1], [0, 4, 1, 3], [0, 0, 2, 3]), [2, 2, 2, 2]), (([1, 1, 1, 1], [1, 4, 1, 1], [3, 1, 4, 0], [0, 3, 2, 3]), [1, 1, 1, 1]), (([1, 1, 1, 1], [1, 4, 1, 1], [3, 1, 4, 0], [0, 3, 2, 3]), [2, 2, 2, 2]), (([1, 1, 1, 1], [1, 4, 1, 1], [3, 1, 4, 0], [0, 3, 2, 3]), [3, 3, 3, 3]), (([1, 1, 1, 1], [1, 4, 1, 1], [3, 4, 0, 1], [0, 2, 2, 3]), [0, 0, 0, 0]), (([1, 1, 1, 1], [1, 4, 1, 1], [3, 4, 0, 1], [0, 2, 2, 3]), [1, 1, 1, 1]), (([1, 1, 1, 1], [1, 4, 1, 1], [3, 4, 0, 1], [0, 2, 2, 3]), [2, 2, 2, 2]), (([1, 1, 1, 1], [1, 4, 1, 1], [4, 1, 0, 3], [0, 2, 2, 3]), [1, 1, 1, 1]), (([1, 1, 1, 1], [1, 4, 1, 1], [4, 1, 0, 3], [0, 2, 2, 3]), [2, 2, 2, 2]), (([1, 1, 1, 1], [1, 4, 1, 1], [4, 1, 0, 3], [0, 2, 2, 3]), [3, 3, 3, 3]), (([1, 1, 1, 1], [1, 4, 1, 1], [4, 3, 1, 0], [0, 3, 2, 3]), [0, 0, 0, 0]), (([1, 1, 1, 1], [1, 4, 1, 1], [4, 3, 1, 0], [0, 3, 2, 3]), [1, 1, 1, 1]), (([1, 1, 1, 1], [1, 4, 1, 1], [4, 3, 1, 0], [0, 3, 2, 3]), [3, 3, 3, 3]), (([1, 1, 1, 2], [1, 4, 2, 1], [3, 1, 4, 0], [0, 3, 3, 3]), [1, 1, 1, 1]), (([1, 1, 1, 3], [1, 3, 1, 1], [0, 3, 1, 0], [0, 0, 2, 3]), [0, 0, 0, 3]), (([1, 1, 1, 3], [1, 3, 1, 1], [0, 3, 1, 0], [0, 0, 2, 3]), [1, 1, 1, 3]), (([1, 1, 1, 3], [1, 3, 1, 1], [3, 1, 0, 0], [0, 2, 2, 3]), [1, 1, 1, 3]), (([1, 1, 1, 3], [1, 3, 1, 1], [3, 1, 0, 0], [0, 2, 2, 3]), [2, 2, 2, 3]), (([1, 1, 2, 1], [1, 3, 1, 1], [0, 4, 0, 1], [0, 0, 2, 3]), [0, 0, 2, 0]), (([1, 1, 2, 1], [1, 3, 1, 1], [0, 4, 0, 1], [0, 0, 2, 3]), [1, 1, 2, 1]), (([1, 1, 2, 1], [1, 3, 1, 1], [4, 1, 0, 0], [0, 3, 2, 3]), [1, 1, 2, 1]), (([1, 1, 2, 1], [1, 3, 1, 1], [4, 1, 0, 0], [0, 3, 2, 3]), [3, 3, 2, 3]), (([1, 1, 2, 2], [1, 2, 2, 1], [0, 1, 4, 0], [0, 0, 3, 3]), [1, 1, 2, 2]), (([1, 1, 2, 3], [1, 2, 1, 1], [0, 1, 0, 0], [0, 0, 2, 3]), [1, 1, 2, 3]), (([1, 1, 3, 1], [1, 4, 1, 2], [4, 1, 0, 3], [0, 2, 2, 2]), [1, 1, 1, 1]), (([1, 1, 3, 3], [1, 2, 1, 2], [0, 1, 0, 3], [0, 0, 2, 2]), [1, 1, 3, 3]), (([1, 2, 2, 2], [1, 2, 4, 1], [0, 1, 4, 2], [0, 0, 0, 3]), [2, 2, 2, 2]), (([1, 3, 3, 3], [1, 2, 1, 4], [0, 1, 2, 3], [0, 0, 2, 0]), [3, 3, 3, 3]), (([2, 0, 2, 2], [2, 1, 4, 1], [2, 0, 4, 1], [1, 1, 1, 3]), [2, 2, 2, 2]), (([2, 1, 1, 1], [1, 4, 2, 1], [0, 4, 1, 3], [0, 0, 0, 3]), [1, 1, 1, 1]), (([2, 1, 2, 1], [1, 2, 2, 1], [0, 4, 1, 0], [0, 3, 0, 3]), [2, 1, 2, 1]), (([2, 1, 2, 2], [1, 1, 3, 1], [0, 0, 4, 1], [0, 1, 0, 3]), [0, 1, 0, 0]), (([2, 1, 2, 2], [1, 1, 3, 1], [0, 0, 4, 1], [0, 1, 0, 3]), [2, 1, 2, 2]), (([2, 1, 2, 2], [1, 1, 3, 1], [4, 0, 1, 0], [0, 1, 3, 3]), [2, 1, 2, 2]), (([2, 1, 2, 2], [1, 1, 3, 1], [4, 0, 1, 0], [0, 1, 3, 3]), [3, 1, 3, 3]), (([2, 1, 2, 3], [1, 1, 2, 1], [0, 0, 1, 0], [0, 1, 0, 3]), [2, 1, 2, 3]), (([2, 2, 2, 0], [2, 1, 4, 1], [4, 1, 2, 0], [3, 1, 3, 3]), [2, 2, 2, 2]), (([2, 2, 2, 1], [1, 2, 4, 1], [2, 4, 1, 0], [0, 3, 3, 3]), [2, 2, 2, 2]), (([2, 2, 2, 2], [1, 1, 4, 1], [0, 1, 4, 2], [0, 1, 0, 3]), [0, 0, 0, 0]), (([2, 2, 2, 2], [1, 1, 4, 1], [0, 1, 4, 2], [0, 1, 0, 3]), [1, 1, 1, 1]), (([2, 2, 2, 2], [1, 1, 4, 1], [0, 1, 4, 2], [0, 1, 0, 3]), [2, 2, 2, 2]), (([2, 2, 2, 2], [1, 1, 4, 1], [0, 4, 2, 1], [0, 1, 0, 3]), [0, 0, 0, 0]), (([2, 2, 2, 2], [1, 1, 4, 1], [0, 4, 2, 1], [0, 1, 0, 3]), [2, 2, 2, 2]), (([2, 2, 2, 2], [1, 1, 4, 1], [0, 4, 2, 1], [0, 1, 0, 3]), [3, 3, 3, 3]), (([2, 2, 2, 2], [1, 1, 4, 1], [2, 0, 4, 1], [0, 1, 1, 3]), [0, 0, 0, 0]), (([2, 2, 2, 2], [1, 1, 4, 1], [2, 0, 4, 1], [0, 1, 1, 3]), [1, 1, 1, 1]), (([2, 2, 2, 2], [1, 1, 4, 1], [2, 0, 4, 1], [0, 1, 1, 3]), [2, 2, 2, 2]), (([2, 2, 2, 2], [1, 1, 4, 1], [2, 4, 1, 0], [0, 1, 3, 3]), [1, 1, 1, 1]), (([2, 2, 2, 2], [1, 1, 4, 1], [2, 4, 1, 0], [0, 1, 3, 3]), [2, 2, 2, 2]), (([2, 2, 2, 2], [1, 1, 4, 1], [2, 4, 1, 0], [0, 1, 3, 3]), [3, 3, 3, 3]), (([2, 2, 2, 2], [1, 1, 4, 1], [4, 0, 1, 2], [0, 1, 1, 3]), [1, 1, 1, 1]), (([2, 2, 2, 2], [1, 1, 4, 1], [4, 0, 1, 2], [0, 1, 1, 3]), [2, 2, 2, 2]), (([2, 2, 2, 2], [1, 1, 4, 1], [4, 0, 1, 2], [0, 1, 1, 3]), [3, 3, 3, 3]), (([2, 2, 2, 2], [1, 1, 4, 1], [4, 1, 2, 0], [0, 1, 3, 3]), [0, 0, 0, 0]), (([2, 2, 2, 2], [1, 1, 4, 1], [4, 1, 2, 0], [0, 1, 3, 3]), [2, 2, 2, 2]), (([2, 2, 2, 2], [1, 1, 4, 1], [4, 1, 2, 0], [0, 1, 3, 3]), [3, 3, 3, 3]), (([2, 2, 2, 3], [1, 1, 3, 1], [0, 1, 2, 0], [0, 1, 0, 3]), [0, 0, 0, 3]), (([2, 2, 2, 3], [1, 1, 3, 1], [0, 1, 2, 0], [0, 1, 0, 3]), [2, 2, 2, 3]), (([2, 2, 2, 3], [1, 1, 3, 1], [2, 0, 1, 0], [0, 1, 1, 3]), [1, 1, 1, 3]), (([2, 2, 2, 3], [1, 1, 3, 1], [2, 0, 1, 0], [0, 1, 1, 3]), [2, 2, 2, 3]), (([2, 3, 2, 2], [1, 1, 4, 2], [4, 0, 1, 2], [0, 1, 1, 1]), [2, 2, 2, 2]), (([2, 3, 2, 3], [1, 1, 2, 2], [0, 0, 1, 2], [0, 1, 0, 1]), [2, 3, 2, 3]), (([2, 3, 3, 3], [1, 1, 2, 4], [0, 3, 1, 2], [0, 1, 0, 0]), [3, 3, 3, 3]), (([3, 0, 3, 3], [2, 1, 1, 4], [2, 0, 1, 3], [1, 1, 2, 1]), [3, 3, 3, 3]), (([3, 1, 1, 1], [1, 4, 1, 2], [0, 3, 4, 1], [0, 0, 2, 0]), [1, 1, 1, 1]), (([3, 1, 1, 3], [1, 2, 1, 2], [0, 3, 0, 1], [0, 2, 2, 0]), [3, 1, 1, 3]), (([3, 1, 2, 3], [1, 1, 1, 2], [0, 0, 0, 1], [0, 1, 2, 0]), [3, 1, 2, 3]), (([3, 1, 3, 3], [1, 1, 1, 3], [0, 0, 1, 3], [0, 1, 2, 0]), [0, 1, 0, 0]), (([3, 1, 3, 3], [1, 1, 1, 3], [0, 0, 1, 3], [0, 1, 2, 0]), [3, 1, 3, 3]), (([3, 1, 3, 3], [1, 1, 1, 3], [3, 0, 0, 1], [0, 1, 2, 2]), [2, 1, 2, 2]), (([3, 1, 3, 3], [1, 1, 1, 3], [3, 0, 0, 1], [0, 1, 2, 2]), [3, 1, 3, 3]), (([3, 2, 2, 2], [1, 1, 4, 2], [0, 4, 2, 1], [0, 1, 0, 0]), [2, 2, 2, 2]), (([3, 2, 2, 3], [1, 1, 2, 2], [0, 0, 2, 1], [0, 1, 1, 0]), [3, 2, 2, 3]), (([3, 2, 3, 3], [1, 1, 2, 4], [3, 0, 2, 1], [0, 1, 1, 1]), [3, 3, 3, 3]), (([3, 3, 0, 3], [2, 1, 1, 4], [3, 1, 0, 2], [2, 1, 2, 2]), [3, 3, 3, 3]), (([3, 3, 1, 3], [1, 2, 1, 4], [2, 3, 0, 1], [0, 2, 2, 2]), [3, 3, 3, 3]), (([3, 3, 2, 3], [1, 1, 1, 3], [0, 1, 0, 2], [0, 1, 2, 0]), [0, 0, 2, 0]), (([3, 3, 2, 3], [1, 1, 1, 3], [0, 1, 0, 2], [0, 1, 2, 0]), [3, 3, 2, 3]), (([3, 3, 2, 3], [1, 1, 1, 3], [2, 0, 0, 1], [0, 1, 2, 1]), [1, 1, 2, 1]), (([3, 3, 2, 3], [1, 1, 1, 3], [2, 0, 0, 1], [0, 1, 2, 1]), [3, 3, 2, 3]), (([3, 3, 3, 3], [1, 1, 1, 4], [0, 1, 2, 3], [0, 1, 2, 0]), [0, 0, 0, 0]), (([3, 3, 3, 3], [1, 1, 1, 4], [0, 1, 2, 3], [0, 1, 2, 0]), [1, 1, 1, 1]), (([3, 3, 3, 3], [1, 1, 1, 4], [0, 1, 2, 3], [0, 1, 2, 0]), [3, 3, 3, 3]), (([3, 3, 3, 3], [1, 1, 1, 4], [0, 3, 1, 2], [0, 1, 2, 0]), [0, 0, 0, 0]), (([3, 3, 3, 3], [1, 1, 1, 4], [0, 3, 1, 2], [0, 1, 2, 0]), [2, 2, 2, 2]), (([3, 3, 3, 3], [1, 1, 1, 4], [0, 3, 1, 2], [0, 1, 2, 0]), [3, 3, 3, 3]), (([3, 3, 3, 3], [1, 1, 1, 4], [2, 0, 1, 3], [0, 1, 2, 1]), [0, 0, 0, 0]), (([3, 3, 3, 3], [1, 1, 1, 4], [2, 0, 1, 3], [0, 1, 2, 1]), [1, 1, 1, 1]), (([3, 3, 3, 3], [1, 1, 1, 4], [2, 0, 1, 3], [0, 1, 2, 1]), [3, 3, 3, 3]), (([3, 3, 3, 3], [1, 1, 1, 4], [2, 3, 0, 1], [0, 1, 2, 2]), [1, 1, 1, 1]), (([3, 3, 3, 3], [1, 1, 1, 4], [2, 3, 0, 1], [0, 1, 2, 2]), [2, 2, 2, 2]), (([3, 3, 3, 3], [1, 1, 1, 4], [2, 3, 0, 1], [0, 1, 2, 2]), [3, 3, 3, 3]), (([3, 3, 3, 3], [1, 1, 1, 4], [3, 0, 2, 1], [0, 1, 2, 1]), [1, 1, 1, 1]), (([3, 3, 3, 3], [1, 1, 1, 4], [3, 0, 2, 1], [0, 1, 2, 1]), [2, 2, 2, 2]), (([3, 3, 3, 3], [1, 1, 1, 4], [3, 0, 2, 1], [0, 1, 2, 1]), [3, 3, 3, 3]), (([3, 3, 3, 3], [1, 1, 1, 4], [3, 1, 0, 2], [0, 1, 2, 2]), [0, 0, 0, 0]), (([3, 3, 3, 3], [1, 1, 1, 4], [3, 1, 0, 2], [0, 1, 2, 2]), [2, 2, 2, 2]), (([3, 3, 3, 3], [1, 1, 1, 4], [3, 1, 0, 2], [0, 1, 2, 2]), [3, 3, 3, 3])]
def own_RF : List (List Nat × List Nat) := [([0, 0, 0, 0], [0, 0, 0, 0]), ([0, 0, 0, 0], [1, 1, 1, 1]), ([0, 0, 0, 0], [2, 2, 2, 2]), ([0, 0, 0, 0], [3, 3, 3, 3]), ([0, 0, 0, 1], [0, 0, 0, 0]), ([0, 0, 0, 2], [0, 0, 0, 0]), ([0, 0, 0, 3], [0, 0, 0, 3]), ([0, 0, 0, 3], [1, 1, 1, 3]), ([0, 0, 0, 3], [2, 2, 2, 3]), ([0, 0, 1, 0], [0, 0, 0, 0]), ([0, 0, 2, 0], [0, 0, 2, 0]), ([0, 0, 2, 0], [1, 1, 2, 1]), ([0, 0, 2, 0], [3, 3, 2, 3]), ([0, 0, 2, 2], [0, 0, 2, 2]), ([0, 0, 2, 3], [0, 0, 2, 3]), ([0, 0, 3, 0], [0, 0, 0, 0]), ([0, 0, 3, 3], [0, 0, 3, 3]), ([0, 1, 0, 0], [0, 1, 0, 0]), ([0, 1, 0, 0], [2, 1, 2, 2]), ([0, 1, 0, 0], [3, 1, 3, 3]), ([0, 1, 0, 1], [0, 1, 0, 1]), ([0, 1, 0, 3], [0, 1, 0, 3]), ([0, 1, 1, 0], [0, 1, 1, 0]), ([0, 1, 1, 1], [0, 1, 1, 1]), ([0, 1, 1, 1], [0, 2, 2, 2]), ([0, 1, 1, 1], [0, 3, 3, 3]), ([0, 1, 1, 3], [0, 1, 1, 3]), ([0, 1, 2, 0], [0, 1, 2, 0]), ([0, 1, 2, 1], [0, 1, 2, 1]), ([0, 1, 2, 2], [0, 1, 2, 2]), ([0, 1, 2, 3], [0, 1, 2, 3]), ([0, 1, 3, 3], [0, 1, 3, 3]), ([0, 2, 0, 0], [0, 0, 0, 0]), ([0, 2, 2, 0], [0, 2, 2, 0]), ([0, 2, 2, 2], [0, 1, 1, 1]), ([0, 2, 2, 2], [0, 2, 2, 2]), ([0, 2, 2, 2], [0, 3, 3, 3]), ([0, 2, 2, 3], [0, 2, 2, 3]), ([0, 3, 0, 0], [0, 0, 0, 0]), ([0, 3, 0, 3], [0, 3, 0, 3]), ([0, 3, 2, 3], [0, 3, 2, 3]), ([0, 3, 3, 3], [0, 1, 1, 1]), ([0, 3, 3, 3], [0, 2, 2, 2]), ([0, 3, 3, 3], [0, 3, 3, 3]), ([1, 1, 0, 1], [1, 1, 1, 1]), ([1, 1, 1, 0], [1, 1, 1, 1]), ([1, 1, 1, 1], [0, 0, 0, 0]), ([1, 1, 1, 1], [1, 1, 1, 1]), ([1, 1, 1, 1], [2, 2, 2, 2]), ([1, 1, 1, 1], [3, 3, 3, 3]), ([1, 1, 1, 2], [1, 1, 1, 1]), ([1, 1, 1, 3], [0, 0, 0, 3]), ([1, 1, 1, 3], [1, 1, 1, 3]), ([1, 1, 1, 3], [2, 2, 2, 3]), ([1, 1, 2, 1], [0, 0, 2, 0]), ([1, 1, 2, 1], [1, 1, 2, 1]), ([1, 1, 2, 1], [3, 3, 2, 3]), ([1, 1, 2, 2], [1, 1, 2, 2]), ([1, 1, 2, 3], [1, 1, 2, 3]), ([1, 1, 3, 1], [1, 1, 1, 1]), ([1, 1, 3, 3], [1, 1, 3, 3]), ([1, 2, 2, 2], [2, 2, 2, 2]), ([1, 3, 3, 3], [3, 3, 3, 3]), ([2, 0, 2, 2], [2, 2, 2, 2]), ([2, 1, 1, 1], [1, 1, 1, 1]), ([2, 1, 2, 1], [2, 1, 2, 1]), ([2, 1, 2, 2], [0, 1, 0, 0]), ([2, 1, 2, 2], [2, 1, 2, 2]), ([2, 1, 2, 2], [3, 1, 3, 3]), ([2, 1, 2, 3], [2, 1, 2, 3]), ([2, 2, 2, 0], [2, 2, 2, 2]), ([2, 2, 2, 1], [2, 2, 2, 2]), ([2, 2, 2, 2], [0, 0, 0, 0]), ([2, 2, 2, 2], [1, 1, 1, 1]), ([2, 2, 2, 2], [2, 2, 2, 2]), ([2, 2, 2, 2], [3, 3, 3, 3]), ([2, 2, 2, 3], [0, 0, 0, 3]), ([2, 2, 2, 3], [1, 1, 1, 3]), ([2, 2, 2, 3], [2, 2, 2, 3]), ([2, 3, 2, 2], [2, 2, 2, 2]), ([2, 3, 2, 3], [2, 3, 2, 3]), ([2, 3, 3, 3], [3, 3, 3, 3]), ([3, 0, 3, 3], [3, 3, 3, 3]), ([3, 1, 1, 1], [1, 1, 1, 1]), ([3, 1, 1, 3], [3, 1, 1, 3]), ([3, 1, 2, 3], [3, 1, 2, 3]), ([3, 1, 3, 3], [0, 1, 0, 0]), ([3, 1, 3, 3], [2, 1, 2, 2]), ([3, 1, 3, 3], [3, 1, 3, 3]), ([3, 2, 2, 2], [2, 2, 2, 2]), ([3, 2, 2, 3], [3, 2, 2, 3]), ([3, 2, 3, 3], [3, 3, 3, 3]), ([3, 3, 0, 3], [3, 3, 3, 3]), ([3, 3, 1, 3], [3, 3, 3, 3]), ([3, 3, 2, 3], [0, 0, 2, 0]), ([3, 3, 2, 3], [1, 1, 2, 1]), ([3, 3, 2, 3], [3, 3, 2, 3]), ([3, 3, 3, 3], [0, 0, 0, 0]), ([3, 3, 3, 3], [1, 1, 1, 1]), ([3, 3, 3, 3], [2, 2, 2, 2]), ([3, 3, 3, 3], [3, 3, 3, 3])]
theorem own_t0 : ∀ s ∈ own_R0, ∀ a : Fin 4, ∀ b : Fin 4, own_jok s.1 a.val b.val ∧ own_rg s.2 ∧ (own_jn s.1 a.val b.val, own_rl s.2 a.val b.val) ∈ own_R1 := by decide +kernel
theorem own_t1 : ∀ s ∈ own_R1, ∀ a : Fin 4, ∀ b : Fin 4, own_jok s.1 a.val b.val ∧ own_rg s.2 ∧ (own_jn s.1 a.val b.val, own_rl s.2 a.val b.val) ∈ own_R2 := by decide +kernel
theorem own_t2 : ∀ s ∈ own_R2, ∀ a : Fin 4, ∀ b : Fin 4, own_jok s.1 a.val b.val ∧ own_rg s.2 ∧ (own_jn s.1 a.val b.val, own_rl s.2 a.val b.val) ∈ own_R3 := by decide +kernel
theorem own_t3 : ∀ s ∈ own_R3, (s.1.1, s.2) ∈ own_RF := by decide +kernel
theorem own_t4 : ∀ s ∈ own_RF, ∀ t : Fin 4, ∀ x : Fin 4, own_chk s.1 s.2 t.val ((t.val + 1) % 4) ((t.val + 2) % 4) ((t.val + 3) % 4) x.val := by decide +kernel
theorem own_s0 {a b : Nat} (ha : a < 4) (hb : b < 4) {P Z N L lab : List Nat} (h : ((P, Z, N, L), lab) ∈ own_R0) : own_jok (P, Z, N, L) a b ∧ own_rg lab ∧ ∀ P' Z' N' L' : List Nat, (P', Z', N', L') = own_jn (P, Z, N, L) a b → ((P', Z', N', L'), own_rl lab a b) ∈ own_R1 := by
  have q := own_t0 _ h ⟨a, ha⟩ ⟨b, hb⟩
  exact ⟨q.1, q.2.1, fun P' Z' N' L' e => e ▸ q.2.2⟩
theorem own_s1 {a b : Nat} (ha : a < 4) (hb : b < 4) {P Z N L lab : List Nat} (h : ((P, Z, N, L), lab) ∈ own_R1) : own_jok (P, Z, N, L) a b ∧ own_rg lab ∧ ∀ P' Z' N' L' : List Nat, (P', Z', N', L') = own_jn (P, Z, N, L) a b → ((P', Z', N', L'), own_rl lab a b) ∈ own_R2 := by
  have q := own_t1 _ h ⟨a, ha⟩ ⟨b, hb⟩
  exact ⟨q.1, q.2.1, fun P' Z' N' L' e => e ▸ q.2.2⟩
theorem own_s2 {a b : Nat} (ha : a < 4) (hb : b < 4) {P Z N L lab : List Nat} (h : ((P, Z, N, L), lab) ∈ own_R2) : own_jok (P, Z, N, L) a b ∧ own_rg lab ∧ ∀ P' Z' N' L' : List Nat, (P', Z', N', L') = own_jn (P, Z, N, L) a b → ((P', Z', N', L'), own_rl lab a b) ∈ own_R3 := by
  have q := own_t2 _ h ⟨a, ha⟩ ⟨b, hb⟩
  exact ⟨q.1, q.2.1, fun P' Z' N' L' e => e ▸ q.2.2⟩
theorem own_fin (P : List Nat) (Z N L lab : List Nat) (h : ((P, Z, N, L), lab) ∈ own_R3) {t x : Nat} (ht : t < 4) (hx : x < 4) : own_chk P lab t ((t + 1) % 4) ((t + 2) % 4) ((t + 3) % 4) x := own_t4 _ (own_t3 _ h) ⟨t, ht⟩ ⟨x, hx⟩
theorem own_q {s : Nat} (h : s < 4) : ((Int32.ofNat s + (1 : Int32)) &&& (3 : Int32)) = Int32.ofNat ((s + 1) % 4) ∧ ((Int32.ofNat s + (2 : Int32)) &&& (3 : Int32)) = Int32.ofNat ((s + 2) % 4) ∧ ((Int32.ofNat s + (3 : Int32)) &&& (3 : Int32)) = Int32.ofNat ((s + 3) % 4) := by
  match s, h with
  | 0, _ => decide
  | 1, _ => decide
  | 2, _ => decide
  | 3, _ => decide
theorem own_small (z : Int32) : ∃ x : Nat, x < 4 ∧ (z &&& (3 : Int32)) = Int32.ofNat x := by
  have e := c_mask z (3 : Int32) 2 (by decide) (by decide)
  refine ⟨(z &&& (3 : Int32)).toInt.toNat, by omega, ?_⟩
  apply Int32.toInt_inj.mp
  rw [own_ti (by omega)]; omega

def own_minI (a b : Int32) : Int32 := if b < a then b else a
theorem d4_0 : decode jdk_29_method_69_code 0 = .ok (.iload_n 0, 1) := by decide +kernel
theorem d4_1 : decode jdk_29_method_69_code 1 = .ok (.iload_n 1, 1) := by decide +kernel
theorem d4_2 : decode jdk_29_method_69_code 2 = .ok (.if_icmp .gt 7, 3) := by decide +kernel
theorem d4_5 : decode jdk_29_method_69_code 5 = .ok (.iload_n 0, 1) := by decide +kernel
theorem d4_6 : decode jdk_29_method_69_code 6 = .ok (.goto 4, 3) := by decide +kernel
theorem d4_9 : decode jdk_29_method_69_code 9 = .ok (.iload_n 1, 1) := by decide +kernel
theorem d4_10 : decode jdk_29_method_69_code 10 = .ok (.ireturn, 1) := by decide +kernel
theorem ef_4 (m : MethodId) (x0 : Int32) (x1 : Int32) : entryFrame m #[(.int x0), (.int x1)] 2 = mkF m 0 #[.val (.int x0), .val (.int x1)] [] := by first | (simp [entryFrame, mkF, argsToLocals, Value.category]; done) | rfl
def Q4 (Z : State) (q0 : Int32) (q1 : Int32) (h0 : Heap) (n0 : Nat) (v : Option Value) (h : Heap) (L : List Loc) : Prop := (v = some (.int (own_minI q0 q1))) ∧ (Fr n0 L) ∧ (h = h0)
abbrev rom_4 : Room := { frames := 0, cells := 0, slots := 0, locals := 0 }
set_option maxRecDepth 65536 in
set_option maxHeartbeats 40000000 in
theorem rm4 (l : Launch) (Z : State) (a0 : Array Value) (hw : ∀ d ∈ tables_1, d.before a0 Z = true) (ws : List Jvm.Cond) (q0 : Int32) (q1 : Int32) (h0 : Heap) (n0 : Nat) (Z0 : n0 ≤ h0.size) :
    MetFree l (⟨"java/lang/Math", "min", "(II)I"⟩ : MethodName) (head1 (Jvm.Cond.code (⟨"java/lang/Math", "min", "(II)I"⟩ : MethodName) jdk_29_method_69_code 2 (some .int) :: ws) rom_4) (fun a U => a = #[(.int q0), (.int q1)] ∧ Z.Warmed39 U.vm ∧ U.heap = h0) (fun _ _ _ _ _ => True) (fun _ U o U' => ∃ v L, o = .returned v ∧ Q4 Z q0 q1 h0 n0 v U'.heap L ∧ FrameEnd U o U' L rom_4.cells rom_4.slots) := by
  refine MetFree.of_bodySF (Jvm.Free.JP.mathPlain rfl (by decide +kernel)) hisR ?_
  intro p e s m args below meth c s₁ Bd hml0 hP hK
  obtain ⟨rfl, hZ, hh⟩ := hP
  have hx := Bd.exec
  have hby := Bd.bytes
  have hlk := Bd.notSynchronized
  have hml : c.maxLocals = 2 := hml0
  have hown : s.vm.findClass "java/lang/Math" = some m.cls := findClass_of_methodNamed Bd.named
  have hnm := (name_of_methodNamed Bd.named Bd.method).1
  have X0 : Stand p l e rom_4 s m #[(.int q0), (.int q1)] below meth c s₁ [] 0 0 := Stand.of_body Bd
  have e0 : s₁.heap = h0 := by rw [← hh, Bd.state]; rfl
  have N0 := Fr.nil n0
  have K0 : Keep h0 h0 [] := Keep.refl _ _
  refine (?_ : OG p e below s (Q4 Z q0 q1 h0 n0) rom_4.cells rom_4.slots _)
  rw [ef_4]
  have s1 : ∀ tz, Steps p.tables e below (s₁.setTop (mkF m 2 #[.val (.int q0), .val (.int q1)] [(.int q1), (.int q0)])) tz → Steps p.tables e below (s₁.setTop (mkF m 0 #[.val (.int q0), .val (.int q1)] [])) tz := by
    intro tz kz
    refine XS.iloadN X0.here hx rfl (hb hby d4_0) rfl ?_
    refine XS.iloadN X0.here hx rfl (hb hby d4_1) rfl ?_
    exact kz
  refine OG.step s1 ?_
  by_cases hc2 : q1 < q0
  · have s2 : ∀ tz, Steps p.tables e below (s₁.setTop (mkF m 10 #[.val (.int q0), .val (.int q1)] [(.int q1)])) tz → Steps p.tables e below (s₁.setTop (mkF m 2 #[.val (.int q0), .val (.int q1)] [(.int q1), (.int q0)])) tz := by
      intro tz kz
      refine XS.icmpYes X0.here hx rfl (pc0 := 2) (pc' := 9) rfl (hb hby d4_2) rfl (tlt hc2).2.2.1 (by decide) (by decide) ?_
      refine XS.iloadN X0.here hx rfl (hb hby d4_9) rfl ?_
      exact kz
    refine OG.step s2 ?_
    exact OG.retI X0 hx hlk Bd.returns (hb hby d4_10) e0 ⟨(by simp [own_minI, hc2]), N0, rfl⟩ (by decide) (by decide)
  · have s3 : ∀ tz, Steps p.tables e below (s₁.setTop (mkF m 10 #[.val (.int q0), .val (.int q1)] [(.int q0)])) tz → Steps p.tables e below (s₁.setTop (mkF m 2 #[.val (.int q0), .val (.int q1)] [(.int q1), (.int q0)])) tz := by
      intro tz kz
      refine XS.icmpNo X0.here hx rfl (hb hby d4_2) rfl (flt hc2).2.2.1 ?_
      refine XS.iloadN X0.here hx rfl (hb hby d4_5) rfl ?_
      refine XS.goto X0.here hx rfl (pc0 := 6) (pc' := 10) rfl (hb hby d4_6) (by decide) (by decide) ?_
      exact kz
    refine OG.step s3 ?_
    exact OG.retI X0 hx hlk Bd.returns (hb hby d4_10) e0 ⟨(by simp [own_minI, hc2]), N0, rfl⟩ (by decide) (by decide)
theorem d3_0 : decode jdk_65_method_123_code 0 = .ok (.iload_n 1, 1) := by decide +kernel
theorem d3_1 : decode jdk_65_method_123_code 1 = .ok (.aload_n 0, 1) := by decide +kernel
theorem d3_2 : decode jdk_65_method_123_code 2 = .ok (.arraylength, 1) := by decide +kernel
theorem d3_3 : decode jdk_65_method_123_code 3 = .ok (.if_icmp .ne 11, 3) := by decide +kernel
theorem d3_6 : decode jdk_65_method_123_code 6 = .ok (.aload_n 0, 1) := by decide +kernel
theorem d3_7 : decode jdk_65_method_123_code 7 = .ok (.invokevirtual 316, 3) := by decide +kernel
theorem d3_10 : decode jdk_65_method_123_code 10 = .ok (.checkcast 317, 3) := by decide +kernel
theorem d3_13 : decode jdk_65_method_123_code 13 = .ok (.areturn, 1) := by decide +kernel
theorem d3_14 : decode jdk_65_method_123_code 14 = .ok (.iload_n 1, 1) := by decide +kernel
theorem d3_15 : decode jdk_65_method_123_code 15 = .ok (.newarray .int, 2) := by decide +kernel
theorem d3_17 : decode jdk_65_method_123_code 17 = .ok (.astore_n 2, 1) := by decide +kernel
theorem d3_18 : decode jdk_65_method_123_code 18 = .ok (.aload_n 0, 1) := by decide +kernel
theorem d3_19 : decode jdk_65_method_123_code 19 = .ok (.iconst 0, 1) := by decide +kernel
theorem d3_20 : decode jdk_65_method_123_code 20 = .ok (.aload_n 2, 1) := by decide +kernel
theorem d3_21 : decode jdk_65_method_123_code 21 = .ok (.iconst 0, 1) := by decide +kernel
theorem d3_22 : decode jdk_65_method_123_code 22 = .ok (.aload_n 0, 1) := by decide +kernel
theorem d3_23 : decode jdk_65_method_123_code 23 = .ok (.arraylength, 1) := by decide +kernel
theorem d3_24 : decode jdk_65_method_123_code 24 = .ok (.iload_n 1, 1) := by decide +kernel
theorem d3_25 : decode jdk_65_method_123_code 25 = .ok (.invokestatic 304, 3) := by decide +kernel
theorem d3_28 : decode jdk_65_method_123_code 28 = .ok (.invokestatic 150, 3) := by decide +kernel
theorem d3_31 : decode jdk_65_method_123_code 31 = .ok (.aload_n 2, 1) := by decide +kernel
theorem d3_32 : decode jdk_65_method_123_code 32 = .ok (.areturn, 1) := by decide +kernel
theorem pn_java_util_Arrays : plainName "java/util/Arrays" = true := by first | (simp [plainName, overriddenIn]; done) | decide +kernel
theorem ef_3a (m : MethodId) (x0 : Addr) (x1 : Int32) : entryFrame m #[(.ref x0), (.int x1)] 3 = mkF m 0 #[.val (.ref x0), .val (.int x1), .unset] [] := by first | (simp [entryFrame, mkF, argsToLocals, Value.category]; done) | rfl
def Q3a (Z : State) (o1 : Addr) (k1 : ClassId) (h0 : Heap) (n0 : Nat) (v : Option Value) (h : Heap) (L : List Loc) : Prop := ∃ (b1 : Addr), (v = some (.ref b1)) ∧ (Fr n0 L) ∧ (Keep h0 h []) ∧ (n0 ≤ b1)
theorem pd__II_I : parseMethodDescriptor "(II)I" = some ⟨[.int, .int], some .int⟩ := by decide +kernel
abbrev rom_3a : Room := { frames := 1, cells := 1, slots := 4, locals := 18 }
set_option maxRecDepth 65536 in
set_option maxHeartbeats 40000000 in
theorem rm3a (l : Launch) (Z : State) (a0 : Array Value) (hw : ∀ d ∈ tables_1, d.before a0 Z = true) (ws : List Jvm.Cond) (o1 : Addr) (k1 : ClassId) (h0 : Heap) (n0 : Nat) (Z0 : n0 ≤ h0.size) (F0_o1 : Arv Z h0 o1 k1 .int (5 : Int32) [(.int (0 : Int32)), (.int (0 : Int32)), (.int (0 : Int32)), (.int (0 : Int32)), (.int (0 : Int32))] (.int (0 : Int32))) :
    MetFree l (⟨"java/util/Arrays", "copyOf", "([II)[I"⟩ : MethodName) (head1 (Jvm.Cond.code (⟨"java/util/Arrays", "copyOf", "([II)[I"⟩ : MethodName) jdk_65_method_123_code 3 (some (.array .int)) :: ws) rom_3a) (fun a U => a = #[(.ref o1), (.int (4 : Int32))] ∧ Z.Warmed39 U.vm ∧ U.heap = h0) (fun _ _ _ _ _ => True) (fun _ U o U' => ∃ v L, o = .returned v ∧ Q3a Z o1 k1 h0 n0 v U'.heap L ∧ FrameEnd U o U' L rom_3a.cells rom_3a.slots) := by
  refine MetFree.of_bodySF (plainFor_of_name pn_java_util_Arrays) hisR ?_
  intro p e s m args below meth c s₁ Bd hml0 hP hK
  obtain ⟨rfl, hZ, hh⟩ := hP
  have hx := Bd.exec
  have hby := Bd.bytes
  have hlk := Bd.notSynchronized
  have hml : c.maxLocals = 3 := hml0
  have hown : s.vm.findClass "java/util/Arrays" = some m.cls := findClass_of_methodNamed Bd.named
  have hnm := (name_of_methodNamed Bd.named Bd.method).1
  have X0 : Stand p l e rom_3a s m #[(.ref o1), (.int (4 : Int32))] below meth c s₁ [] 0 0 := Stand.of_body Bd
  have e0 : s₁.heap = h0 := by rw [← hh, Bd.state]; rfl
  have N0 := Fr.nil n0
  have K0 : Keep h0 h0 [] := Keep.refl _ _
  refine (?_ : OG p e below s (Q3a Z o1 k1 h0 n0) rom_3a.cells rom_3a.slots _)
  rw [ef_3a]
  have s1 : ∀ tz, Steps p.tables e below (s₁.setTop (mkF m 2 #[.val (.ref o1), .val (.int (4 : Int32)), .unset] [(.ref o1), (.int (4 : Int32))])) tz → Steps p.tables e below (s₁.setTop (mkF m 0 #[.val (.ref o1), .val (.int (4 : Int32)), .unset] [])) tz := by
    intro tz kz
    refine XS.iloadN X0.here hx rfl (hb hby d3_0) rfl ?_
    refine XS.aloadN X0.here hx rfl (hb hby d3_1) rfl rfl ?_
    exact kz
  refine OG.step s1 ?_
  have av2 := F0_o1
  obtain ⟨cl2, Ar2, qa_2, Sa_2, Nn_2, Ha_2, Ga_2⟩ := av2
  refine OG.step (X0.arraylength hx (by rw [e0]; exact Ar2.1) (State.isArrayOf_alike hZ.alike Ar2.2.1) (g := (mkF m 2 #[.val (.ref o1), .val (.int (4 : Int32)), .unset] [(.ref o1), (.int (4 : Int32))])) rfl rfl (hb hby d3_2)) ?_
  rw [len_of Sa_2 Nn_2]
  show OG _ _ _ _ _ _ _ (s₁.setTop (mkF m 3 #[.val (.ref o1), .val (.int (4 : Int32)), .unset] [(.int (5 : Int32)), (.int (4 : Int32))]))
  have s3 : ∀ tz, Steps p.tables e below (s₁.setTop (mkF m 15 #[.val (.ref o1), .val (.int (4 : Int32)), .unset] [(.int (4 : Int32))])) tz → Steps p.tables e below (s₁.setTop (mkF m 3 #[.val (.ref o1), .val (.int (4 : Int32)), .unset] [(.int (5 : Int32)), (.int (4 : Int32))])) tz := by
    intro tz kz
    refine XS.icmpYes X0.here hx rfl (pc0 := 3) (pc' := 14) rfl (hb hby d3_3) rfl (feq (by decide)).2 (by decide) (by decide) ?_
    refine XS.iloadN X0.here hx rfl (hb hby d3_14) rfl ?_
    exact kz
  refine OG.step s3 ?_
  obtain ⟨T4, h4, k4, X4, e4, E4, A4, st4⟩ := newP X0 hx hZ (hw _ (List.mem_of_getElem? (i := 10) rfl)) e0 (g := (mkF m 15 #[.val (.ref o1), .val (.int (4 : Int32)), .unset] [(.int (4 : Int32))])) rfl (hb hby d3_15) rfl (by decide) (cap := 4) (by decide) (by decide) (by decide) (by decide)
  obtain ⟨b4, g4⟩ : ∃ z, z = h0.size := ⟨_, rfl⟩
  rw [← g4] at A4 st4
  have sz4 : h0.size ≤ b4 := Nat.le_trans K0.1 (Nat.le_of_eq g4.symm)
  have ge4 : n0 ≤ b4 := Nat.le_trans Z0 sz4
  have ne4_o1 : o1 ≠ b4 := Nat.ne_of_lt (Nat.lt_of_lt_of_le F0_o1.lt (Nat.le_of_eq g4.symm))
  refine OG.step st4 ?_
  have f5 := F0_o1.ext E4
  have V4 : Arv Z h4 b4 k4 .int (4 : Int32) [(.int (0 : Int32)), (.int (0 : Int32)), (.int (0 : Int32)), (.int (0 : Int32))] (.int (0 : Int32)) := (Arv.new A4 (by decide)).pad (pad_rep [] (.int (0 : Int32)) 4)
  have K4 := K0.ext E4
  show OG _ _ _ _ _ _ _ (T4.setTop (mkF m 17 #[.val (.ref o1), .val (.int (4 : Int32)), .unset] [(.ref b4)]))
  have s6 : ∀ tz, Steps p.tables e below (T4.setTop (mkF m 23 #[.val (.ref o1), .val (.int (4 : Int32)), .val (.ref b4)] [(.ref o1), (.int (0 : Int32)), (.ref b4), (.int (0 : Int32)), (.ref o1)])) tz → Steps p.tables e below (T4.setTop (mkF m 17 #[.val (.ref o1), .val (.int (4 : Int32)), .unset] [(.ref b4)])) tz := by
    intro tz kz
    refine XS.astoreN X4.here hx rfl (hb hby d3_17) rfl rfl (l' := #[.val (.ref o1), .val (.int (4 : Int32)), .val (.ref b4)]) rfl ?_
    refine XS.aloadN X4.here hx rfl (hb hby d3_18) rfl rfl ?_
    refine XS.iconst X4.here hx rfl (hb hby d3_19) ?_
    refine XS.aloadN X4.here hx rfl (hb hby d3_20) rfl rfl ?_
    refine XS.iconst X4.here hx rfl (hb hby d3_21) ?_
    show Steps p.tables e below (T4.setTop (mkF m 22 #[.val (.ref o1), .val (.int (4 : Int32)), .val (.ref b4)] [(.int (0 : Int32)), (.ref b4), (.int (0 : Int32)), (.ref o1)])) _
    refine XS.aloadN X4.here hx rfl (hb hby d3_22) rfl rfl ?_
    exact kz
  refine OG.step s6 ?_
  have av7 := f5
  obtain ⟨cl7, Ar7, qa_7, Sa_7, Nn_7, Ha_7, Ga_7⟩ := av7
  refine OG.step (X4.arraylength hx (by rw [e4]; exact Ar7.1) (State.isArrayOf_alike hZ.alike Ar7.2.1) (g := (mkF m 23 #[.val (.ref o1), .val (.int (4 : Int32)), .val (.ref b4)] [(.ref o1), (.int (0 : Int32)), (.ref b4), (.int (0 : Int32)), (.ref o1)])) rfl rfl (hb hby d3_23)) ?_
  rw [len_of Sa_7 Nn_7]
  show OG _ _ _ _ _ _ _ (T4.setTop (mkF m 24 #[.val (.ref o1), .val (.int (4 : Int32)), .val (.ref b4)] [(.int (5 : Int32)), (.int (0 : Int32)), (.ref b4), (.int (0 : Int32)), (.ref o1)]))
  have s8 : ∀ tz, Steps p.tables e below (T4.setTop (mkF m 25 #[.val (.ref o1), .val (.int (4 : Int32)), .val (.ref b4)] [(.int (4 : Int32)), (.int (5 : Int32)), (.int (0 : Int32)), (.ref b4), (.int (0 : Int32)), (.ref o1)])) tz → Steps p.tables e below (T4.setTop (mkF m 24 #[.val (.ref o1), .val (.int (4 : Int32)), .val (.ref b4)] [(.int (5 : Int32)), (.int (0 : Int32)), (.ref b4), (.int (0 : Int32)), (.ref o1)])) tz := by
    intro tz kz
    refine XS.iloadN X4.here hx rfl (hb hby d3_24) rfl ?_
    exact kz
  refine OG.step s8 ?_
  obtain ⟨_, _, ⟨T9, L9, k9, n9⟩, -, X9, ⟨Lc9, hQ9, l9, y9, z9⟩, st9⟩ := Jvm.LawKit.callS X4 hx (y := (⟨"java/lang/Math", "min", "(II)I"⟩ : MethodName)) hown (mvT hZ (hw _ (List.mem_of_getElem? (i := 15) rfl))) (mvT hZ (hw _ (List.mem_of_getElem? (i := 16) rfl))) (mvT hZ (hw _ (List.mem_of_getElem? (i := 17) rfl))) (mvT hZ (hw _ (List.mem_of_getElem? (i := 18) rfl))) (by decide) (backOf (W := 4) (rm4 l Z a0 hw [] (5 : Int32) (4 : Int32) h4 n0 (Nat.le_trans Z0 K4.1)) hZ (hw _ (List.mem_of_getElem? (i := 18) rfl)) (hw _ (List.mem_of_getElem? (i := 17) rfl)) (by decide) (by decide)) (g := (mkF m 25 #[.val (.ref o1), .val (.int (4 : Int32)), .val (.ref b4)] [(.int (4 : Int32)), (.int (5 : Int32)), (.int (0 : Int32)), (.ref b4), (.int (0 : Int32)), (.ref o1)])) rfl (by rw [hml]; rfl) (argsL := [(.int (5 : Int32)), (.int (4 : Int32))]) (rest := [(.int (0 : Int32)), (.ref b4), (.int (0 : Int32)), (.ref o1)]) (lenOf pd__II_I rfl) rfl (by show 2 * 0 + _ ≤ _; exact Nat.le_of_eq rfl) (hb hby d3_25) (fun _ _ => ⟨rfl, e4, (by decide : 1 + 0 ≤ _), (by decide : 4 + 0 ≤ _)⟩)
  dsimp only [Pt.U, Pt.locs, Pt.cells, Pt.slots] at X9 l9 y9 z9 st9 hQ9
  subst l9 y9 z9
  obtain ⟨rfl, N9q, e9⟩ := hQ9
  have N9 := Fr.app N0 N9q
  refine OG.step st9 ?_
  obtain ⟨Lz10, X9, N9⟩ : ∃ Lz, Stand p l e rom_3a s m #[(.ref o1), (.int (4 : Int32))] below meth c T9 Lz 1 4 ∧ Fr n0 Lz := ⟨_, X9, N9⟩
  show OG _ _ _ _ _ _ _ (T9.setTop (mkF m 28 #[.val (.ref o1), .val (.int (4 : Int32)), .val (.ref b4)] [(.int (4 : Int32)), (.int (0 : Int32)), (.ref b4), (.int (0 : Int32)), (.ref o1)]))
  obtain ⟨T11, h11, L11, X11, e11, N11, Kc11, Vc11, st11⟩ := cpA X9 hx hZ hown (hw _ (List.mem_of_getElem? (i := 19) rfl)) (hw _ (List.mem_of_getElem? (i := 22) rfl)) (hw _ (List.mem_of_getElem? (i := 20) rfl)) (hw _ (List.mem_of_getElem? (i := 21) rfl)) e9 f5 V4 (us := [(.int (0 : Int32)), (.int (0 : Int32)), (.int (0 : Int32)), (.int (0 : Int32))]) (Or.inl ⟨rfl, rfl⟩) (by decide) (by decide) (by decide) (by decide) (by decide) rfl (Nat.le_of_ble_eq_true rfl) N9 ge4 (g := (mkF m 28 #[.val (.ref o1), .val (.int (4 : Int32)), .val (.ref b4)] [(.int (4 : Int32)), (.int (0 : Int32)), (.ref b4), (.int (0 : Int32)), (.ref o1)])) rfl (by rw [hml]; rfl) rfl (hb hby d3_28) (by decide) (W := 0) (by show 2 * 0 + _ ≤ _; exact Nat.le_of_eq rfl) (by decide)
  refine OG.step st11 ?_
  have Vd11 : Arv Z h11 b4 k4 .int (4 : Int32) [(.int (0 : Int32)), (.int (0 : Int32)), (.int (0 : Int32)), (.int (0 : Int32))] (.int (0 : Int32)) := Vc11
  have f12 := f5.keep Kc11 (ninS ne4_o1 nin0)
  have K11 := K4.trans Kc11 (allS (Or.inr sz4) all0)
  obtain ⟨Lz13, X11, N11⟩ : ∃ Lz, Stand p l e rom_3a s m #[(.ref o1), (.int (4 : Int32))] below meth c T11 Lz 1 4 ∧ Fr n0 Lz := ⟨_, X11, N11⟩
  show OG _ _ _ _ _ _ _ (T11.setTop (mkF m 31 #[.val (.ref o1), .val (.int (4 : Int32)), .val (.ref b4)] []))
  have s14 : ∀ tz, Steps p.tables e below (T11.setTop (mkF m 32 #[.val (.ref o1), .val (.int (4 : Int32)), .val (.ref b4)] [(.ref b4)])) tz → Steps p.tables e below (T11.setTop (mkF m 31 #[.val (.ref o1), .val (.int (4 : Int32)), .val (.ref b4)] [])) tz := by
    intro tz kz
    refine XS.aloadN X11.here hx rfl (hb hby d3_31) rfl rfl ?_
    exact kz
  refine OG.step s14 ?_
  exact OG.retR X11 hx hlk Bd.returns (by decide) (hb hby d3_32) e11 ⟨b4, rfl, N11, K11, ge4⟩ (by decide) (by decide)
theorem ef_3b (m : MethodId) (x0 : Addr) (x1 : Int32) : entryFrame m #[(.ref x0), (.int x1)] 3 = mkF m 0 #[.val (.ref x0), .val (.int x1), .unset] [] := by first | (simp [entryFrame, mkF, argsToLocals, Value.category]; done) | rfl
def Q3b (Z : State) (o1 : Addr) (k1 : ClassId) (h0 : Heap) (n0 : Nat) (v : Option Value) (h : Heap) (L : List Loc) : Prop := ∃ (b1 : Addr), (v = some (.ref b1)) ∧ (Fr n0 L) ∧ (Keep h0 h []) ∧ (n0 ≤ b1)
abbrev rom_3b : Room := { frames := 1, cells := 1, slots := 0, locals := 14 }
set_option maxRecDepth 65536 in
set_option maxHeartbeats 40000000 in
theorem rm3b (l : Launch) (Z : State) (a0 : Array Value) (hw : ∀ d ∈ tables_1, d.before a0 Z = true) (ws : List Jvm.Cond) (o1 : Addr) (k1 : ClassId) (h0 : Heap) (n0 : Nat) (Z0 : n0 ≤ h0.size) (F0_o1 : Exa Z h0 o1 "[I") (F1_o1 : Arv Z h0 o1 k1 .int (0 : Int32) [] (.int (0 : Int32))) :
    MetFree l (⟨"java/util/Arrays", "copyOf", "([II)[I"⟩ : MethodName) (head1 (Jvm.Cond.code (⟨"java/util/Arrays", "copyOf", "([II)[I"⟩ : MethodName) jdk_65_method_123_code 3 (some (.array .int)) :: ws) rom_3b) (fun a U => a = #[(.ref o1), (.int (0 : Int32))] ∧ Z.Warmed39 U.vm ∧ U.heap = h0) (fun _ _ _ _ _ => True) (fun _ U o U' => ∃ v L, o = .returned v ∧ Q3b Z o1 k1 h0 n0 v U'.heap L ∧ FrameEnd U o U' L rom_3b.cells rom_3b.slots) := by
  refine MetFree.of_bodySF (plainFor_of_name pn_java_util_Arrays) hisR ?_
  intro p e s m args below meth c s₁ Bd hml0 hP hK
  obtain ⟨rfl, hZ, hh⟩ := hP
  have hx := Bd.exec
  have hby := Bd.bytes
  have hlk := Bd.notSynchronized
  have hml : c.maxLocals = 3 := hml0
  have hown : s.vm.findClass "java/util/Arrays" = some m.cls := findClass_of_methodNamed Bd.named
  have hnm := (name_of_methodNamed Bd.named Bd.method).1
  have X0 : Stand p l e rom_3b s m #[(.ref o1), (.int (0 : Int32))] below meth c s₁ [] 0 0 := Stand.of_body Bd
  have e0 : s₁.heap = h0 := by rw [← hh, Bd.state]; rfl
  have N0 := Fr.nil n0
  have K0 : Keep h0 h0 [] := Keep.refl _ _
  refine (?_ : OG p e below s (Q3b Z o1 k1 h0 n0) rom_3b.cells rom_3b.slots _)
  rw [ef_3b]
  have s1 : ∀ tz, Steps p.tables e below (s₁.setTop (mkF m 2 #[.val (.ref o1), .val (.int (0 : Int32)), .unset] [(.ref o1), (.int (0 : Int32))])) tz → Steps p.tables e below (s₁.setTop (mkF m 0 #[.val (.ref o1), .val (.int (0 : Int32)), .unset] [])) tz := by
    intro tz kz
    refine XS.iloadN X0.here hx rfl (hb hby d3_0) rfl ?_
    refine XS.aloadN X0.here hx rfl (hb hby d3_1) rfl rfl ?_
    exact kz
  refine OG.step s1 ?_
  have av2 := F1_o1
  obtain ⟨cl2, Ar2, qa_2, Sa_2, Nn_2, Ha_2, Ga_2⟩ := av2
  refine OG.step (X0.arraylength hx (by rw [e0]; exact Ar2.1) (State.isArrayOf_alike hZ.alike Ar2.2.1) (g := (mkF m 2 #[.val (.ref o1), .val (.int (0 : Int32)), .unset] [(.ref o1), (.int (0 : Int32))])) rfl rfl (hb hby d3_2)) ?_
  rw [len_of Sa_2 Nn_2]
  show OG _ _ _ _ _ _ _ (s₁.setTop (mkF m 3 #[.val (.ref o1), .val (.int (0 : Int32)), .unset] [(.int (0 : Int32)), (.int (0 : Int32))]))
  have s3 : ∀ tz, Steps p.tables e below (s₁.setTop (mkF m 7 #[.val (.ref o1), .val (.int (0 : Int32)), .unset] [(.ref o1)])) tz → Steps p.tables e below (s₁.setTop (mkF m 3 #[.val (.ref o1), .val (.int (0 : Int32)), .unset] [(.int (0 : Int32)), (.int (0 : Int32))])) tz := by
    intro tz kz
    refine XS.icmpNo X0.here hx rfl (hb hby d3_3) rfl (teq (by decide)).2 ?_
    refine XS.aloadN X0.here hx rfl (hb hby d3_6) rfl rfl ?_
    exact kz
  refine OG.step s3 ?_
  have av4 := F1_o1
  obtain ⟨cl4, Ar4, qa_4, Sa_4, Nn_4, Ha_4, Ga_4⟩ := av4
  have FC4 : FitC Z cl4 := fitC_of Ar4 fun i hi v hv => by rw [Ha_4 i hi] at hv; cases hv; exact Ga_4 i hi
  obtain ⟨T5, h5, X5, e5, E5, A5, Ex5, st5⟩ := cloneA X0 hx hZ hown (hw _ (List.mem_of_getElem? (i := 28) rfl)) (hw _ (List.mem_of_getElem? (i := 29) rfl)) (hw _ (List.mem_of_getElem? (i := 33) rfl)) (hw _ (List.mem_of_getElem? (i := 31) rfl)) (hw _ (List.mem_of_getElem? (i := 32) rfl)) (hw _ (List.mem_of_getElem? (i := 34) rfl)) e0 Ar4 F0_o1 FC4 (g := (mkF m 7 #[.val (.ref o1), .val (.int (0 : Int32)), .unset] [(.ref o1)])) rfl (by rw [hml]; rfl) rfl (hb hby d3_7) (by decide) (W := 0) (cap := 0) (by show 2 * 0 + _ ≤ _; exact Nat.le_of_eq rfl) (by decide) (by rw [Sa_4]; decide) (by decide) (by decide)
  obtain ⟨b5, g5⟩ : ∃ z, z = h0.size := ⟨_, rfl⟩
  rw [← g5] at A5 Ex5 st5
  have sz5 : h0.size ≤ b5 := Nat.le_trans K0.1 (Nat.le_of_eq g5.symm)
  have ge5 : n0 ≤ b5 := Nat.le_trans Z0 sz5
  have ne5_o1 : o1 ≠ b5 := Nat.ne_of_lt (Nat.lt_of_lt_of_le F0_o1.lt (Nat.le_of_eq g5.symm))
  refine OG.step st5 ?_
  have f6 := F0_o1.ext E5
  have f7 := F1_o1.ext E5
  have V5 : Arv Z h5 b5 k1 .int (0 : Int32) [] (.int (0 : Int32)) := ⟨_, A5, qa_4, Sa_4, Nn_4, Ha_4, Ga_4⟩
  have K5 := K0.ext E5
  show OG _ _ _ _ _ _ _ (T5.setTop (mkF m 10 #[.val (.ref o1), .val (.int (0 : Int32)), .unset] [(.ref b5)]))
  obtain ⟨T8, X8, e8, st8⟩ := castY X5 hx hZ hown (hw _ (List.mem_of_getElem? (i := 35) rfl)) e5 (Ins.self Ex5) (g := (mkF m 10 #[.val (.ref o1), .val (.int (0 : Int32)), .unset] [(.ref b5)])) rfl rfl (hb hby d3_10)
  refine OG.step st8 ?_
  show OG _ _ _ _ _ _ _ (T8.setTop (mkF m 13 #[.val (.ref o1), .val (.int (0 : Int32)), .unset] [(.ref b5)]))
  exact OG.retR X8 hx hlk Bd.returns (by decide) (hb hby d3_13) e8 ⟨b5, rfl, N0, K5, ge5⟩ (by decide) (by decide)
theorem d5_0 : decode prog_25_method_2_code 0 = .ok (.iload_n 2, 1) := by decide +kernel
theorem d5_1 : decode prog_25_method_2_code 1 = .ok (.iload_n 1, 1) := by decide +kernel
theorem d5_2 : decode prog_25_method_2_code 2 = .ok (.isub, 1) := by decide +kernel
theorem d5_3 : decode prog_25_method_2_code 3 = .ok (.iconst 1, 1) := by decide +kernel
theorem d5_4 : decode prog_25_method_2_code 4 = .ok (.if_icmp .le 9, 3) := by decide +kernel
theorem d5_7 : decode prog_25_method_2_code 7 = .ok (.aload_n 0, 1) := by decide +kernel
theorem d5_8 : decode prog_25_method_2_code 8 = .ok (.iload_n 1, 1) := by decide +kernel
theorem d5_9 : decode prog_25_method_2_code 9 = .ok (.iload_n 2, 1) := by decide +kernel
theorem d5_10 : decode prog_25_method_2_code 10 = .ok (.invokestatic 26, 3) := by decide +kernel
theorem d5_13 : decode prog_25_method_2_code 13 = .ok (.iload_n 3, 1) := by decide +kernel
theorem d5_14 : decode prog_25_method_2_code 14 = .ok (.istore 4, 2) := by decide +kernel
theorem d5_16 : decode prog_25_method_2_code 16 = .ok (.iload_n 1, 1) := by decide +kernel
theorem d5_17 : decode prog_25_method_2_code 17 = .ok (.istore 5, 2) := by decide +kernel
theorem d5_19 : decode prog_25_method_2_code 19 = .ok (.iload 5, 2) := by decide +kernel
theorem d5_21 : decode prog_25_method_2_code 21 = .ok (.iload_n 2, 1) := by decide +kernel
theorem d5_22 : decode prog_25_method_2_code 22 = .ok (.if_icmp .ge 39, 3) := by decide +kernel
theorem d5_25 : decode prog_25_method_2_code 25 = .ok (.iload 5, 2) := by decide +kernel
theorem d5_27 : decode prog_25_method_2_code 27 = .ok (.iload_n 1, 1) := by decide +kernel
theorem d5_28 : decode prog_25_method_2_code 28 = .ok (.if_icmp .eq 16, 3) := by decide +kernel
theorem d5_31 : decode prog_25_method_2_code 31 = .ok (.aload_n 0, 1) := by decide +kernel
theorem d5_32 : decode prog_25_method_2_code 32 = .ok (.iload 5, 2) := by decide +kernel
theorem d5_34 : decode prog_25_method_2_code 34 = .ok (.iaload, 1) := by decide +kernel
theorem d5_35 : decode prog_25_method_2_code 35 = .ok (.aload_n 0, 1) := by decide +kernel
theorem d5_36 : decode prog_25_method_2_code 36 = .ok (.iload 5, 2) := by decide +kernel
theorem d5_38 : decode prog_25_method_2_code 38 = .ok (.iconst 1, 1) := by decide +kernel
theorem d5_39 : decode prog_25_method_2_code 39 = .ok (.isub, 1) := by decide +kernel
theorem d5_40 : decode prog_25_method_2_code 40 = .ok (.iaload, 1) := by decide +kernel
theorem d5_41 : decode prog_25_method_2_code 41 = .ok (.if_icmp .eq 14, 3) := by decide +kernel
theorem d5_44 : decode prog_25_method_2_code 44 = .ok (.aload_n 0, 1) := by decide +kernel
theorem d5_45 : decode prog_25_method_2_code 45 = .ok (.iload 4, 2) := by decide +kernel
theorem d5_47 : decode prog_25_method_2_code 47 = .ok (.iinc 4 1, 3) := by decide +kernel
theorem d5_50 : decode prog_25_method_2_code 50 = .ok (.aload_n 0, 1) := by decide +kernel
theorem d5_51 : decode prog_25_method_2_code 51 = .ok (.iload 5, 2) := by decide +kernel
theorem d5_53 : decode prog_25_method_2_code 53 = .ok (.iaload, 1) := by decide +kernel
theorem d5_54 : decode prog_25_method_2_code 54 = .ok (.iastore, 1) := by decide +kernel
theorem d5_55 : decode prog_25_method_2_code 55 = .ok (.iinc 5 1, 3) := by decide +kernel
theorem d5_58 : decode prog_25_method_2_code 58 = .ok (.goto (-39), 3) := by decide +kernel
theorem d5_61 : decode prog_25_method_2_code 61 = .ok (.iload 4, 2) := by decide +kernel
theorem d5_63 : decode prog_25_method_2_code 63 = .ok (.ireturn, 1) := by decide +kernel
theorem pn_com_example_tidegraph_tidegraph_amd64_InterferenceGraph : plainName "com/example/tidegraph/tidegraph/amd64/InterferenceGraph" = true := by first | (simp [plainName, overriddenIn]; done) | decide +kernel
theorem ef_5 (m : MethodId) (x0 : Addr) (x1 : Int32) (x2 : Int32) (x3 : Int32) : entryFrame m #[(.ref x0), (.int x1), (.int x2), (.int x3)] 6 = mkF m 0 #[.val (.ref x0), .val (.int x1), .val (.int x2), .val (.int x3), .unset, .unset] [] := by first | (simp [entryFrame, mkF, argsToLocals, Value.category]; done) | rfl
def Q5 (Z : State) (o1 : Addr) (h0 : Heap) (n0 : Nat) (v : Option Value) (h : Heap) (L : List Loc) : Prop := (v = some (.int (0 : Int32))) ∧ (Fr n0 L) ∧ (h = h0)
abbrev rom_5 : Room := { frames := 0, cells := 0, slots := 0, locals := 0 }
set_option maxRecDepth 65536 in
set_option maxHeartbeats 40000000 in
theorem rm5 (l : Launch) (Z : State) (a0 : Array Value) (hw : ∀ d ∈ tables_1, d.before a0 Z = true) (ws : List Jvm.Cond) (o1 : Addr) (h0 : Heap) (n0 : Nat) (Z0 : n0 ≤ h0.size) :
    MetFree l (⟨"com/example/tidegraph/tidegraph/amd64/InterferenceGraph", "keep", "([IIII)I"⟩ : MethodName) (head1 (Jvm.Cond.code (⟨"com/example/tidegraph/tidegraph/amd64/InterferenceGraph", "keep", "([IIII)I"⟩ : MethodName) prog_25_method_2_code 6 (some .int) :: ws) rom_5) (fun a U => a = #[(.ref o1), (.int (0 : Int32)), (.int (0 : Int32)), (.int (0 : Int32))] ∧ Z.Warmed39 U.vm ∧ U.heap = h0) (fun _ _ _ _ _ => True) (fun _ U o U' => ∃ v L, o = .returned v ∧ Q5 Z o1 h0 n0 v U'.heap L ∧ FrameEnd U o U' L rom_5.cells rom_5.slots) := by
  refine MetFree.of_bodySF (plainFor_of_name pn_com_example_tidegraph_tidegraph_amd64_InterferenceGraph) hisR ?_
  intro p e s m args below meth c s₁ Bd hml0 hP hK
  obtain ⟨rfl, hZ, hh⟩ := hP
  have hx := Bd.exec
  have hby := Bd.bytes
  have hlk := Bd.notSynchronized
  have hml : c.maxLocals = 6 := hml0
  have hown : s.vm.findClass "com/example/tidegraph/tidegraph/amd64/InterferenceGraph" = some m.cls := findClass_of_methodNamed Bd.named
  have hnm := (name_of_methodNamed Bd.named Bd.method).1
  have X0 : Stand p l e rom_5 s m #[(.ref o1), (.int (0 : Int32)), (.int (0 : Int32)), (.int (0 : Int32))] below meth c s₁ [] 0 0 := Stand.of_body Bd
  have e0 : s₁.heap = h0 := by rw [← hh, Bd.state]; rfl
  have N0 := Fr.nil n0
  have K0 : Keep h0 h0 [] := Keep.refl _ _
  refine (?_ : OG p e below s (Q5 Z o1 h0 n0) rom_5.cells rom_5.slots _)
  rw [ef_5]
  have s1 : ∀ tz, Steps p.tables e below (s₁.setTop (mkF m 63 #[.val (.ref o1), .val (.int (0 : Int32)), .val (.int (0 : Int32)), .val (.int (0 : Int32)), .val (.int (0 : Int32)), .val (.int (0 : Int32))] [(.int (0 : Int32))])) tz → Steps p.tables e below (s₁.setTop (mkF m 0 #[.val (.ref o1), .val (.int (0 : Int32)), .val (.int (0 : Int32)), .val (.int (0 : Int32)), .unset, .unset] [])) tz := by
    intro tz kz
    refine XS.iloadN X0.here hx rfl (hb hby d5_0) rfl ?_
    refine XS.iloadN X0.here hx rfl (hb hby d5_1) rfl ?_
    refine XS.isub X0.here hx rfl (hb hby d5_2) rfl ?_
    refine XS.iconst X0.here hx rfl (hb hby d5_3) ?_
    refine XS.icmpYes X0.here hx rfl (pc0 := 4) (pc' := 13) rfl (hb hby d5_4) rfl (flt (by decide)).2.2.2 (by decide) (by decide) ?_
    show Steps p.tables e below (s₁.setTop (mkF m 13 #[.val (.ref o1), .val (.int (0 : Int32)), .val (.int (0 : Int32)), .val (.int (0 : Int32)), .unset, .unset] [])) _
    refine XS.iloadN X0.here hx rfl (hb hby d5_13) rfl ?_
    refine XS.istore X0.here hx rfl (hb hby d5_14) rfl (l' := #[.val (.ref o1), .val (.int (0 : Int32)), .val (.int (0 : Int32)), .val (.int (0 : Int32)), .val (.int (0 : Int32)), .unset]) rfl ?_
    refine XS.iloadN X0.here hx rfl (hb hby d5_16) rfl ?_
    refine XS.istore X0.here hx rfl (hb hby d5_17) rfl (l' := #[.val (.ref o1), .val (.int (0 : Int32)), .val (.int (0 : Int32)), .val (.int (0 : Int32)), .val (.int (0 : Int32)), .val (.int (0 : Int32))]) rfl ?_
    refine XS.iload X0.here hx rfl (hb hby d5_19) rfl ?_
    show Steps p.tables e below (s₁.setTop (mkF m 21 #[.val (.ref o1), .val (.int (0 : Int32)), .val (.int (0 : Int32)), .val (.int (0 : Int32)), .val (.int (0 : Int32)), .val (.int (0 : Int32))] [(.int (0 : Int32))])) _
    refine XS.iloadN X0.here hx rfl (hb hby d5_21) rfl ?_
    refine XS.icmpYes X0.here hx rfl (pc0 := 22) (pc' := 61) rfl (hb hby d5_22) rfl (flt (by decide)).2.1 (by decide) (by decide) ?_
    refine XS.iload X0.here hx rfl (hb hby d5_61) rfl ?_
    exact kz
  refine OG.step s1 ?_
  exact OG.retI X0 hx hlk Bd.returns (hb hby d5_63) e0 ⟨rfl, N0, rfl⟩ (by decide) (by decide)
theorem d1_0 : decode prog_25_method_1_code 0 = .ok (.aload_n 0, 1) := by decide +kernel
theorem d1_1 : decode prog_25_method_1_code 1 = .ok (.invokespecial 1, 3) := by decide +kernel
theorem d1_4 : decode prog_25_method_1_code 4 = .ok (.iload_n 1, 1) := by decide +kernel
theorem d1_5 : decode prog_25_method_1_code 5 = .ok (.iconst 1, 1) := by decide +kernel
theorem d1_6 : decode prog_25_method_1_code 6 = .ok (.iadd, 1) := by decide +kernel
theorem d1_7 : decode prog_25_method_1_code 7 = .ok (.newarray .int, 2) := by decide +kernel
theorem d1_9 : decode prog_25_method_1_code 9 = .ok (.astore 4, 2) := by decide +kernel
theorem d1_11 : decode prog_25_method_1_code 11 = .ok (.iconst 0, 1) := by decide +kernel
theorem d1_12 : decode prog_25_method_1_code 12 = .ok (.istore 5, 2) := by decide +kernel
theorem d1_14 : decode prog_25_method_1_code 14 = .ok (.iload 5, 2) := by decide +kernel
theorem d1_16 : decode prog_25_method_1_code 16 = .ok (.iload_n 3, 1) := by decide +kernel
theorem d1_17 : decode prog_25_method_1_code 17 = .ok (.if_icmp .ge 40, 3) := by decide +kernel
theorem d1_20 : decode prog_25_method_1_code 20 = .ok (.aload 4, 2) := by decide +kernel
theorem d1_22 : decode prog_25_method_1_code 22 = .ok (.aload_n 2, 1) := by decide +kernel
theorem d1_23 : decode prog_25_method_1_code 23 = .ok (.iload 5, 2) := by decide +kernel
theorem d1_25 : decode prog_25_method_1_code 25 = .ok (.laload, 1) := by decide +kernel
theorem d1_26 : decode prog_25_method_1_code 26 = .ok (.bipush 32, 2) := by decide +kernel
theorem d1_28 : decode prog_25_method_1_code 28 = .ok (.lushr, 1) := by decide +kernel
theorem d1_29 : decode prog_25_method_1_code 29 = .ok (.l2i, 1) := by decide +kernel
theorem d1_30 : decode prog_25_method_1_code 30 = .ok (.iconst 1, 1) := by decide +kernel
theorem d1_31 : decode prog_25_method_1_code 31 = .ok (.iadd, 1) := by decide +kernel
theorem d1_32 : decode prog_25_method_1_code 32 = .ok (.dup2, 1) := by decide +kernel
theorem d1_33 : decode prog_25_method_1_code 33 = .ok (.iaload, 1) := by decide +kernel
theorem d1_34 : decode prog_25_method_1_code 34 = .ok (.iconst 1, 1) := by decide +kernel
theorem d1_35 : decode prog_25_method_1_code 35 = .ok (.iadd, 1) := by decide +kernel
theorem d1_36 : decode prog_25_method_1_code 36 = .ok (.iastore, 1) := by decide +kernel
theorem d1_37 : decode prog_25_method_1_code 37 = .ok (.aload 4, 2) := by decide +kernel
theorem d1_39 : decode prog_25_method_1_code 39 = .ok (.aload_n 2, 1) := by decide +kernel
theorem d1_40 : decode prog_25_method_1_code 40 = .ok (.iload 5, 2) := by decide +kernel
theorem d1_42 : decode prog_25_method_1_code 42 = .ok (.laload, 1) := by decide +kernel
theorem d1_43 : decode prog_25_method_1_code 43 = .ok (.l2i, 1) := by decide +kernel
theorem d1_44 : decode prog_25_method_1_code 44 = .ok (.iconst 1, 1) := by decide +kernel
theorem d1_45 : decode prog_25_method_1_code 45 = .ok (.iadd, 1) := by decide +kernel
theorem d1_46 : decode prog_25_method_1_code 46 = .ok (.dup2, 1) := by decide +kernel
theorem d1_47 : decode prog_25_method_1_code 47 = .ok (.iaload, 1) := by decide +kernel
theorem d1_48 : decode prog_25_method_1_code 48 = .ok (.iconst 1, 1) := by decide +kernel
theorem d1_49 : decode prog_25_method_1_code 49 = .ok (.iadd, 1) := by decide +kernel
theorem d1_50 : decode prog_25_method_1_code 50 = .ok (.iastore, 1) := by decide +kernel
theorem d1_51 : decode prog_25_method_1_code 51 = .ok (.iinc 5 1, 3) := by decide +kernel
theorem d1_54 : decode prog_25_method_1_code 54 = .ok (.goto (-40), 3) := by decide +kernel
theorem d1_57 : decode prog_25_method_1_code 57 = .ok (.iconst 0, 1) := by decide +kernel
theorem d1_58 : decode prog_25_method_1_code 58 = .ok (.istore 5, 2) := by decide +kernel
theorem d1_60 : decode prog_25_method_1_code 60 = .ok (.iload 5, 2) := by decide +kernel
theorem d1_62 : decode prog_25_method_1_code 62 = .ok (.iload_n 1, 1) := by decide +kernel
theorem d1_63 : decode prog_25_method_1_code 63 = .ok (.if_icmp .ge 24, 3) := by decide +kernel
theorem d1_66 : decode prog_25_method_1_code 66 = .ok (.aload 4, 2) := by decide +kernel
theorem d1_68 : decode prog_25_method_1_code 68 = .ok (.iload 5, 2) := by decide +kernel
theorem d1_70 : decode prog_25_method_1_code 70 = .ok (.iconst 1, 1) := by decide +kernel
theorem d1_71 : decode prog_25_method_1_code 71 = .ok (.iadd, 1) := by decide +kernel
theorem d1_72 : decode prog_25_method_1_code 72 = .ok (.dup2, 1) := by decide +kernel
theorem d1_73 : decode prog_25_method_1_code 73 = .ok (.iaload, 1) := by decide +kernel
theorem d1_74 : decode prog_25_method_1_code 74 = .ok (.aload 4, 2) := by decide +kernel
theorem d1_76 : decode prog_25_method_1_code 76 = .ok (.iload 5, 2) := by decide +kernel
theorem d1_78 : decode prog_25_method_1_code 78 = .ok (.iaload, 1) := by decide +kernel
theorem d1_79 : decode prog_25_method_1_code 79 = .ok (.iadd, 1) := by decide +kernel
theorem d1_80 : decode prog_25_method_1_code 80 = .ok (.iastore, 1) := by decide +kernel
theorem d1_81 : decode prog_25_method_1_code 81 = .ok (.iinc 5 1, 3) := by decide +kernel
theorem d1_84 : decode prog_25_method_1_code 84 = .ok (.goto (-24), 3) := by decide +kernel
theorem d1_87 : decode prog_25_method_1_code 87 = .ok (.iconst 2, 1) := by decide +kernel
theorem d1_88 : decode prog_25_method_1_code 88 = .ok (.iload_n 3, 1) := by decide +kernel
theorem d1_89 : decode prog_25_method_1_code 89 = .ok (.imul, 1) := by decide +kernel
theorem d1_90 : decode prog_25_method_1_code 90 = .ok (.newarray .int, 2) := by decide +kernel
theorem d1_92 : decode prog_25_method_1_code 92 = .ok (.astore 5, 2) := by decide +kernel
theorem d1_94 : decode prog_25_method_1_code 94 = .ok (.aload 4, 2) := by decide +kernel
theorem d1_96 : decode prog_25_method_1_code 96 = .ok (.iload_n 1, 1) := by decide +kernel
theorem d1_97 : decode prog_25_method_1_code 97 = .ok (.invokestatic 7, 3) := by decide +kernel
theorem d1_100 : decode prog_25_method_1_code 100 = .ok (.astore 6, 2) := by decide +kernel
theorem d1_102 : decode prog_25_method_1_code 102 = .ok (.iconst 0, 1) := by decide +kernel
theorem d1_103 : decode prog_25_method_1_code 103 = .ok (.istore 7, 2) := by decide +kernel
theorem d1_105 : decode prog_25_method_1_code 105 = .ok (.iload 7, 2) := by decide +kernel
theorem d1_107 : decode prog_25_method_1_code 107 = .ok (.iload_n 3, 1) := by decide +kernel
theorem d1_108 : decode prog_25_method_1_code 108 = .ok (.if_icmp .ge 56, 3) := by decide +kernel
theorem d1_111 : decode prog_25_method_1_code 111 = .ok (.aload_n 2, 1) := by decide +kernel
theorem d1_112 : decode prog_25_method_1_code 112 = .ok (.iload 7, 2) := by decide +kernel
theorem d1_114 : decode prog_25_method_1_code 114 = .ok (.laload, 1) := by decide +kernel
theorem d1_115 : decode prog_25_method_1_code 115 = .ok (.bipush 32, 2) := by decide +kernel
theorem d1_117 : decode prog_25_method_1_code 117 = .ok (.lushr, 1) := by decide +kernel
theorem d1_118 : decode prog_25_method_1_code 118 = .ok (.l2i, 1) := by decide +kernel
theorem d1_119 : decode prog_25_method_1_code 119 = .ok (.istore 8, 2) := by decide +kernel
theorem d1_121 : decode prog_25_method_1_code 121 = .ok (.aload_n 2, 1) := by decide +kernel
theorem d1_122 : decode prog_25_method_1_code 122 = .ok (.iload 7, 2) := by decide +kernel
theorem d1_124 : decode prog_25_method_1_code 124 = .ok (.laload, 1) := by decide +kernel
theorem d1_125 : decode prog_25_method_1_code 125 = .ok (.l2i, 1) := by decide +kernel
theorem d1_126 : decode prog_25_method_1_code 126 = .ok (.istore 9, 2) := by decide +kernel
theorem d1_128 : decode prog_25_method_1_code 128 = .ok (.aload 5, 2) := by decide +kernel
theorem d1_130 : decode prog_25_method_1_code 130 = .ok (.aload 6, 2) := by decide +kernel
theorem d1_132 : decode prog_25_method_1_code 132 = .ok (.iload 8, 2) := by decide +kernel
theorem d1_134 : decode prog_25_method_1_code 134 = .ok (.dup2, 1) := by decide +kernel
theorem d1_135 : decode prog_25_method_1_code 135 = .ok (.iaload, 1) := by decide +kernel
theorem d1_136 : decode prog_25_method_1_code 136 = .ok (.dup_x2, 1) := by decide +kernel
theorem d1_137 : decode prog_25_method_1_code 137 = .ok (.iconst 1, 1) := by decide +kernel
theorem d1_138 : decode prog_25_method_1_code 138 = .ok (.iadd, 1) := by decide +kernel
theorem d1_139 : decode prog_25_method_1_code 139 = .ok (.iastore, 1) := by decide +kernel
theorem d1_140 : decode prog_25_method_1_code 140 = .ok (.iload 9, 2) := by decide +kernel
theorem d1_142 : decode prog_25_method_1_code 142 = .ok (.iastore, 1) := by decide +kernel
theorem d1_143 : decode prog_25_method_1_code 143 = .ok (.aload 5, 2) := by decide +kernel
theorem d1_145 : decode prog_25_method_1_code 145 = .ok (.aload 6, 2) := by decide +kernel
theorem d1_147 : decode prog_25_method_1_code 147 = .ok (.iload 9, 2) := by decide +kernel
theorem d1_149 : decode prog_25_method_1_code 149 = .ok (.dup2, 1) := by decide +kernel
theorem d1_150 : decode prog_25_method_1_code 150 = .ok (.iaload, 1) := by decide +kernel
theorem d1_151 : decode prog_25_method_1_code 151 = .ok (.dup_x2, 1) := by decide +kernel
theorem d1_152 : decode prog_25_method_1_code 152 = .ok (.iconst 1, 1) := by decide +kernel
theorem d1_153 : decode prog_25_method_1_code 153 = .ok (.iadd, 1) := by decide +kernel
theorem d1_154 : decode prog_25_method_1_code 154 = .ok (.iastore, 1) := by decide +kernel
theorem d1_155 : decode prog_25_method_1_code 155 = .ok (.iload 8, 2) := by decide +kernel
theorem d1_157 : decode prog_25_method_1_code 157 = .ok (.iastore, 1) := by decide +kernel
theorem d1_158 : decode prog_25_method_1_code 158 = .ok (.iinc 7 1, 3) := by decide +kernel
theorem d1_161 : decode prog_25_method_1_code 161 = .ok (.goto (-56), 3) := by decide +kernel
theorem d1_164 : decode prog_25_method_1_code 164 = .ok (.aload_n 0, 1) := by decide +kernel
theorem d1_165 : decode prog_25_method_1_code 165 = .ok (.iload_n 1, 1) := by decide +kernel
theorem d1_166 : decode prog_25_method_1_code 166 = .ok (.iconst 1, 1) := by decide +kernel
theorem d1_167 : decode prog_25_method_1_code 167 = .ok (.iadd, 1) := by decide +kernel
theorem d1_168 : decode prog_25_method_1_code 168 = .ok (.newarray .int, 2) := by decide +kernel
theorem d1_170 : decode prog_25_method_1_code 170 = .ok (.putfield 13, 3) := by decide +kernel
theorem d1_173 : decode prog_25_method_1_code 173 = .ok (.iconst 0, 1) := by decide +kernel
theorem d1_174 : decode prog_25_method_1_code 174 = .ok (.istore 7, 2) := by decide +kernel
theorem d1_176 : decode prog_25_method_1_code 176 = .ok (.iconst 0, 1) := by decide +kernel
theorem d1_177 : decode prog_25_method_1_code 177 = .ok (.istore 8, 2) := by decide +kernel
theorem d1_179 : decode prog_25_method_1_code 179 = .ok (.iload 8, 2) := by decide +kernel
theorem d1_181 : decode prog_25_method_1_code 181 = .ok (.iload_n 1, 1) := by decide +kernel
theorem d1_182 : decode prog_25_method_1_code 182 = .ok (.if_icmp .ge 39, 3) := by decide +kernel
theorem d1_185 : decode prog_25_method_1_code 185 = .ok (.aload_n 0, 1) := by decide +kernel
theorem d1_186 : decode prog_25_method_1_code 186 = .ok (.getfield 13, 3) := by decide +kernel
theorem d1_189 : decode prog_25_method_1_code 189 = .ok (.iload 8, 2) := by decide +kernel
theorem d1_191 : decode prog_25_method_1_code 191 = .ok (.iload 7, 2) := by decide +kernel
theorem d1_193 : decode prog_25_method_1_code 193 = .ok (.iastore, 1) := by decide +kernel
theorem d1_194 : decode prog_25_method_1_code 194 = .ok (.aload 5, 2) := by decide +kernel
theorem d1_196 : decode prog_25_method_1_code 196 = .ok (.aload 4, 2) := by decide +kernel
theorem d1_198 : decode prog_25_method_1_code 198 = .ok (.iload 8, 2) := by decide +kernel
theorem d1_200 : decode prog_25_method_1_code 200 = .ok (.iaload, 1) := by decide +kernel
theorem d1_201 : decode prog_25_method_1_code 201 = .ok (.aload 4, 2) := by decide +kernel
theorem d1_203 : decode prog_25_method_1_code 203 = .ok (.iload 8, 2) := by decide +kernel
theorem d1_205 : decode prog_25_method_1_code 205 = .ok (.iconst 1, 1) := by decide +kernel
theorem d1_206 : decode prog_25_method_1_code 206 = .ok (.iadd, 1) := by decide +kernel
theorem d1_207 : decode prog_25_method_1_code 207 = .ok (.iaload, 1) := by decide +kernel
theorem d1_208 : decode prog_25_method_1_code 208 = .ok (.iload 7, 2) := by decide +kernel
theorem d1_210 : decode prog_25_method_1_code 210 = .ok (.invokestatic 19, 3) := by decide +kernel
theorem d1_213 : decode prog_25_method_1_code 213 = .ok (.istore 7, 2) := by decide +kernel
theorem d1_215 : decode prog_25_method_1_code 215 = .ok (.iinc 8 1, 3) := by decide +kernel
theorem d1_218 : decode prog_25_method_1_code 218 = .ok (.goto (-39), 3) := by decide +kernel
theorem d1_221 : decode prog_25_method_1_code 221 = .ok (.aload_n 0, 1) := by decide +kernel
theorem d1_222 : decode prog_25_method_1_code 222 = .ok (.getfield 13, 3) := by decide +kernel
theorem d1_225 : decode prog_25_method_1_code 225 = .ok (.iload_n 1, 1) := by decide +kernel
theorem d1_226 : decode prog_25_method_1_code 226 = .ok (.iload 7, 2) := by decide +kernel
theorem d1_228 : decode prog_25_method_1_code 228 = .ok (.iastore, 1) := by decide +kernel
theorem d1_229 : decode prog_25_method_1_code 229 = .ok (.aload_n 0, 1) := by decide +kernel
theorem d1_230 : decode prog_25_method_1_code 230 = .ok (.aload 5, 2) := by decide +kernel
theorem d1_232 : decode prog_25_method_1_code 232 = .ok (.iload 7, 2) := by decide +kernel
theorem d1_234 : decode prog_25_method_1_code 234 = .ok (.invokestatic 7, 3) := by decide +kernel
theorem d1_237 : decode prog_25_method_1_code 237 = .ok (.putfield 23, 3) := by decide +kernel
theorem d1_240 : decode prog_25_method_1_code 240 = .ok (.return_, 1) := by decide +kernel
theorem ef_1 (m : MethodId) (x0 : Addr) (x1 : Int32) (x2 : Addr) (x3 : Int32) : entryFrame m #[(.ref x0), (.int x1), (.ref x2), (.int x3)] 10 = mkF m 0 #[.val (.ref x0), .val (.int x1), .val (.ref x2), .val (.int x3), .unset, .unset, .unset, .unset, .unset, .unset] [] := by first | (simp [entryFrame, mkF, argsToLocals, Value.category]; done) | rfl
def Q1 (Z : State) (a1 : Addr) (o2 : Addr) (u1 : Value) (u2 : Value) (h0 : Heap) (n0 : Nat) (v : Option Value) (h : Heap) (L : List Loc) : Prop := ∃ (gs : Addr) (ks : ClassId), (v = none) ∧ (Fr n0 L) ∧ (Keep h0 h [a1]) ∧ (Fld Z h a1 "com/example/tidegraph/tidegraph/amd64/InterferenceGraph" "starts" "[I" (.ref gs)) ∧ (Arv Z h gs ks .int (5 : Int32) [(.int (0 : Int32)), (.int (0 : Int32)), (.int (0 : Int32)), (.int (0 : Int32)), (.int (0 : Int32))] (.int (0 : Int32))) ∧ (h0.size ≤ gs)
theorem pd___II__I : parseMethodDescriptor "([II)[I" = some ⟨[(.array .int), .int], some (.array .int)⟩ := by decide +kernel
theorem pd___IIII_I : parseMethodDescriptor "([IIII)I" = some ⟨[(.array .int), .int, .int, .int], some .int⟩ := by decide +kernel
abbrev rom_1 : Room := { frames := 2, cells := 5, slots := 14, locals := 32 }
set_option maxRecDepth 65536 in
set_option maxHeartbeats 40000000 in
theorem rm1 (l : Launch) (Z : State) (a0 : Array Value) (hw : ∀ d ∈ tables_1, d.before a0 Z = true) (ws : List Jvm.Cond) (a1 : Addr) (o2 : Addr) (u1 : Value) (u2 : Value) (h0 : Heap) (n0 : Nat) (Z0 : n0 ≤ h0.size) (F0_a1 : Exa Z h0 a1 "com/example/tidegraph/tidegraph/amd64/InterferenceGraph") (F1_a1_starts : Fld Z h0 a1 "com/example/tidegraph/tidegraph/amd64/InterferenceGraph" "starts" "[I" u1) (F2_a1_neighbours : Fld Z h0 a1 "com/example/tidegraph/tidegraph/amd64/InterferenceGraph" "neighbours" "[I" u2) (g_a1 : n0 ≤ a1) :
    MetFree l (⟨"com/example/tidegraph/tidegraph/amd64/InterferenceGraph", "<init>", "(I[JI)V"⟩ : MethodName) (head1 (Jvm.Cond.code (⟨"com/example/tidegraph/tidegraph/amd64/InterferenceGraph", "<init>", "(I[JI)V"⟩ : MethodName) prog_25_method_1_code 10 none :: ws) rom_1) (fun a U => a = #[(.ref a1), (.int (4 : Int32)), (.ref o2), (.int (0 : Int32))] ∧ Z.Warmed39 U.vm ∧ U.heap = h0) (fun _ _ _ _ _ => True) (fun _ U o U' => ∃ v L, o = .returned v ∧ Q1 Z a1 o2 u1 u2 h0 n0 v U'.heap L ∧ FrameEnd U o U' L rom_1.cells rom_1.slots) := by
  refine MetFree.of_bodySF (plainFor_of_name pn_com_example_tidegraph_tidegraph_amd64_InterferenceGraph) hisR ?_
  intro p e s m args below meth c s₁ Bd hml0 hP hK
  obtain ⟨rfl, hZ, hh⟩ := hP
  have hx := Bd.exec
  have hby := Bd.bytes
  have hlk := Bd.notSynchronized
  have hml : c.maxLocals = 10 := hml0
  have hown : s.vm.findClass "com/example/tidegraph/tidegraph/amd64/InterferenceGraph" = some m.cls := findClass_of_methodNamed Bd.named
  have hnm := (name_of_methodNamed Bd.named Bd.method).1
  have X0 : Stand p l e rom_1 s m #[(.ref a1), (.int (4 : Int32)), (.ref o2), (.int (0 : Int32))] below meth c s₁ [] 0 0 := Stand.of_body Bd
  have e0 : s₁.heap = h0 := by rw [← hh, Bd.state]; rfl
  have N0 := Fr.nil n0
  have K0 : Keep h0 h0 [a1] := Keep.refl _ _
  refine (?_ : OG p e below s (Q1 Z a1 o2 u1 u2 h0 n0) rom_1.cells rom_1.slots _)
  rw [ef_1]
  have s1 : ∀ tz, Steps p.tables e below (s₁.setTop (mkF m 1 #[.val (.ref a1), .val (.int (4 : Int32)), .val (.ref o2), .val (.int (0 : Int32)), .unset, .unset, .unset, .unset, .unset, .unset] [(.ref a1)])) tz → Steps p.tables e below (s₁.setTop (mkF m 0 #[.val (.ref a1), .val (.int (4 : Int32)), .val (.ref o2), .val (.int (0 : Int32)), .unset, .unset, .unset, .unset, .unset, .unset] [])) tz := by
    intro tz kz
    refine XS.aloadN X0.here hx rfl (hb hby d1_0) rfl rfl ?_
    exact kz
  refine OG.step s1 ?_
  obtain ⟨T2, X2, e2, st2⟩ := initO X0 hx hZ hown (hw _ (List.mem_of_getElem? (i := 7) rfl)) (hw _ (List.mem_of_getElem? (i := 8) rfl)) (hw _ (List.mem_of_getElem? (i := 9) rfl)) e0 (g := (mkF m 1 #[.val (.ref a1), .val (.int (4 : Int32)), .val (.ref o2), .val (.int (0 : Int32)), .unset, .unset, .unset, .unset, .unset, .unset] [(.ref a1)])) rfl (by rw [hml]; rfl) rfl (hb hby d1_1) (by decide) (W := 0) (by show 2 * 0 + _ ≤ _; exact Nat.le_of_eq rfl) (by decide)
  refine OG.step st2 ?_
  show OG _ _ _ _ _ _ _ (T2.setTop (mkF m 4 #[.val (.ref a1), .val (.int (4 : Int32)), .val (.ref o2), .val (.int (0 : Int32)), .unset, .unset, .unset, .unset, .unset, .unset] []))
  have s3 : ∀ tz, Steps p.tables e below (T2.setTop (mkF m 7 #[.val (.ref a1), .val (.int (4 : Int32)), .val (.ref o2), .val (.int (0 : Int32)), .unset, .unset, .unset, .unset, .unset, .unset] [(.int (5 : Int32))])) tz → Steps p.tables e below (T2.setTop (mkF m 4 #[.val (.ref a1), .val (.int (4 : Int32)), .val (.ref o2), .val (.int (0 : Int32)), .unset, .unset, .unset, .unset, .unset, .unset] [])) tz := by
    intro tz kz
    refine XS.iloadN X2.here hx rfl (hb hby d1_4) rfl ?_
    refine XS.iconst X2.here hx rfl (hb hby d1_5) ?_
    refine XS.iadd X2.here hx rfl (hb hby d1_6) rfl ?_
    exact kz
  refine OG.step s3 ?_
  obtain ⟨T4, h4, k4, X4, e4, E4, A4, Ex4, st4⟩ := newPE X2 hx hZ (hw _ (List.mem_of_getElem? (i := 10) rfl)) e2 (g := (mkF m 7 #[.val (.ref a1), .val (.int (4 : Int32)), .val (.ref o2), .val (.int (0 : Int32)), .unset, .unset, .unset, .unset, .unset, .unset] [(.int (5 : Int32))])) rfl (hb hby d1_7) rfl (by decide) (cap := 5) (by decide) (by decide) (by decide) (by decide) (ad := "[I") (by decide)
  obtain ⟨b4, g4⟩ : ∃ z, z = h0.size := ⟨_, rfl⟩
  rw [← g4] at A4 Ex4 st4
  have sz4 : h0.size ≤ b4 := Nat.le_trans K0.1 (Nat.le_of_eq g4.symm)
  have ge4 : n0 ≤ b4 := Nat.le_trans Z0 sz4
  have ne4_a1 : a1 ≠ b4 := Nat.ne_of_lt (Nat.lt_of_lt_of_le F0_a1.lt (Nat.le_of_eq g4.symm))
  refine OG.step st4 ?_
  have f5 := F0_a1.ext E4
  have f6 := F1_a1_starts.ext E4
  have f7 := F2_a1_neighbours.ext E4
  have V4 : Arv Z h4 b4 k4 .int (5 : Int32) [(.int (0 : Int32)), (.int (0 : Int32)), (.int (0 : Int32)), (.int (0 : Int32)), (.int (0 : Int32))] (.int (0 : Int32)) := (Arv.new A4 (by decide)).pad (pad_rep [] (.int (0 : Int32)) 5)
  have K4 := K0.ext E4
  show OG _ _ _ _ _ _ _ (T4.setTop (mkF m 9 #[.val (.ref a1), .val (.int (4 : Int32)), .val (.ref o2), .val (.int (0 : Int32)), .unset, .unset, .unset, .unset, .unset, .unset] [(.ref b4)]))
  have s8 : ∀ tz, Steps p.tables e below (T4.setTop (mkF m 73 #[.val (.ref a1), .val (.int (4 : Int32)), .val (.ref o2), .val (.int (0 : Int32)), .val (.ref b4), .val (.int (0 : Int32)), .unset, .unset, .unset, .unset] [(.int (1 : Int32)), (.ref b4), (.int (1 : Int32)), (.ref b4)])) tz → Steps p.tables e below (T4.setTop (mkF m 9 #[.val (.ref a1), .val (.int (4 : Int32)), .val (.ref o2), .val (.int (0 : Int32)), .unset, .unset, .unset, .unset, .unset, .unset] [(.ref b4)])) tz := by
    intro tz kz
    refine XS.astore X4.here hx rfl (hb hby d1_9) rfl rfl (l' := #[.val (.ref a1), .val (.int (4 : Int32)), .val (.ref o2), .val (.int (0 : Int32)), .val (.ref b4), .unset, .unset, .unset, .unset, .unset]) rfl ?_
    refine XS.iconst X4.here hx rfl (hb hby d1_11) ?_
    refine XS.istore X4.here hx rfl (hb hby d1_12) rfl (l' := #[.val (.ref a1), .val (.int (4 : Int32)), .val (.ref o2), .val (.int (0 : Int32)), .val (.ref b4), .val (.int (0 : Int32)), .unset, .unset, .unset, .unset]) rfl ?_
    refine XS.iload X4.here hx rfl (hb hby d1_14) rfl ?_
    refine XS.iloadN X4.here hx rfl (hb hby d1_16) rfl ?_
    show Steps p.tables e below (T4.setTop (mkF m 17 #[.val (.ref a1), .val (.int (4 : Int32)), .val (.ref o2), .val (.int (0 : Int32)), .val (.ref b4), .val (.int (0 : Int32)), .unset, .unset, .unset, .unset] [(.int (0 : Int32)), (.int (0 : Int32))])) _
    refine XS.icmpYes X4.here hx rfl (pc0 := 17) (pc' := 57) rfl (hb hby d1_17) rfl (flt (by decide)).2.1 (by decide) (by decide) ?_
    refine XS.iconst X4.here hx rfl (hb hby d1_57) ?_
    refine XS.istore X4.here hx rfl (hb hby d1_58) rfl (l' := #[.val (.ref a1), .val (.int (4 : Int32)), .val (.ref o2), .val (.int (0 : Int32)), .val (.ref b4), .val (.int (0 : Int32)), .unset, .unset, .unset, .unset]) rfl ?_
    refine XS.iload X4.here hx rfl (hb hby d1_60) rfl ?_
    refine XS.iloadN X4.here hx rfl (hb hby d1_62) rfl ?_
    show Steps p.tables e below (T4.setTop (mkF m 63 #[.val (.ref a1), .val (.int (4 : Int32)), .val (.ref o2), .val (.int (0 : Int32)), .val (.ref b4), .val (.int (0 : Int32)), .unset, .unset, .unset, .unset] [(.int (4 : Int32)), (.int (0 : Int32))])) _
    refine XS.icmpNo X4.here hx rfl (hb hby d1_63) rfl (tlt (by decide)).2.1 ?_
    refine XS.aload X4.here hx rfl (hb hby d1_66) rfl rfl ?_
    refine XS.iload X4.here hx rfl (hb hby d1_68) rfl ?_
    refine XS.iconst X4.here hx rfl (hb hby d1_70) ?_
    refine XS.iadd X4.here hx rfl (hb hby d1_71) rfl ?_
    show Steps p.tables e below (T4.setTop (mkF m 72 #[.val (.ref a1), .val (.int (4 : Int32)), .val (.ref o2), .val (.int (0 : Int32)), .val (.ref b4), .val (.int (0 : Int32)), .unset, .unset, .unset, .unset] [(.int (1 : Int32)), (.ref b4)])) _
    refine XT.dup2 X4.here hx rfl (hb hby d1_72) rfl rfl rfl ?_
    exact kz
  refine OG.step s8 ?_
  have av9 := V4
  obtain ⟨cl9, Ar9, qa_9, Sa_9, Nn_9, Ha_9, Ga_9⟩ := av9
  have hin9 : ¬ ((1 : Int32) < 0 ∨ cl9.slots.size ≤ ((1 : Int32)).toNatClampNeg) := inb_of Sa_9 ⟨(by decide), (by decide)⟩
  have hat9 : cl9.slots[((1 : Int32)).toNatClampNeg]? = some (.int (0 : Int32)) := Ha_9.at hin9 rfl
  refine OG.step (X4.iaload hx (j := (1 : Int32)) (v := (.int (0 : Int32))) (by rw [e4]; exact Ar9.1) (State.isArrayOf_alike hZ.alike Ar9.2.1) Ar9.2.2 hin9 hat9 (g := (mkF m 73 #[.val (.ref a1), .val (.int (4 : Int32)), .val (.ref o2), .val (.int (0 : Int32)), .val (.ref b4), .val (.int (0 : Int32)), .unset, .unset, .unset, .unset] [(.int (1 : Int32)), (.ref b4), (.int (1 : Int32)), (.ref b4)])) rfl rfl (hb hby d1_73)) ?_
  show OG _ _ _ _ _ _ _ (T4.setTop (mkF m 74 #[.val (.ref a1), .val (.int (4 : Int32)), .val (.ref o2), .val (.int (0 : Int32)), .val (.ref b4), .val (.int (0 : Int32)), .unset, .unset, .unset, .unset] [(.int (0 : Int32)), (.int (1 : Int32)), (.ref b4)]))
  have s10 : ∀ tz, Steps p.tables e below (T4.setTop (mkF m 78 #[.val (.ref a1), .val (.int (4 : Int32)), .val (.ref o2), .val (.int (0 : Int32)), .val (.ref b4), .val (.int (0 : Int32)), .unset, .unset, .unset, .unset] [(.int (0 : Int32)), (.ref b4), (.int (0 : Int32)), (.int (1 : Int32)), (.ref b4)])) tz → Steps p.tables e below (T4.setTop (mkF m 74 #[.val (.ref a1), .val (.int (4 : Int32)), .val (.ref o2), .val (.int (0 : Int32)), .val (.ref b4), .val (.int (0 : Int32)), .unset, .unset, .unset, .unset] [(.int (0 : Int32)), (.int (1 : Int32)), (.ref b4)])) tz := by
    intro tz kz
    refine XS.aload X4.here hx rfl (hb hby d1_74) rfl rfl ?_
    refine XS.iload X4.here hx rfl (hb hby d1_76) rfl ?_
    exact kz
  refine OG.step s10 ?_
  have av11 := V4
  obtain ⟨cl11, Ar11, qa_11, Sa_11, Nn_11, Ha_11, Ga_11⟩ := av11
  have hin11 : ¬ ((0 : Int32) < 0 ∨ cl11.slots.size ≤ ((0 : Int32)).toNatClampNeg) := inb_of Sa_11 ⟨(by decide), (by decide)⟩
  have hat11 : cl11.slots[((0 : Int32)).toNatClampNeg]? = some (.int (0 : Int32)) := Ha_11.at hin11 rfl
  refine OG.step (X4.iaload hx (j := (0 : Int32)) (v := (.int (0 : Int32))) (by rw [e4]; exact Ar11.1) (State.isArrayOf_alike hZ.alike Ar11.2.1) Ar11.2.2 hin11 hat11 (g := (mkF m 78 #[.val (.ref a1), .val (.int (4 : Int32)), .val (.ref o2), .val (.int (0 : Int32)), .val (.ref b4), .val (.int (0 : Int32)), .unset, .unset, .unset, .unset] [(.int (0 : Int32)), (.ref b4), (.int (0 : Int32)), (.int (1 : Int32)), (.ref b4)])) rfl rfl (hb hby d1_78)) ?_
  show OG _ _ _ _ _ _ _ (T4.setTop (mkF m 79 #[.val (.ref a1), .val (.int (4 : Int32)), .val (.ref o2), .val (.int (0 : Int32)), .val (.ref b4), .val (.int (0 : Int32)), .unset, .unset, .unset, .unset] [(.int (0 : Int32)), (.int (0 : Int32)), (.int (1 : Int32)), (.ref b4)]))
  have s12 : ∀ tz, Steps p.tables e below (T4.setTop (mkF m 80 #[.val (.ref a1), .val (.int (4 : Int32)), .val (.ref o2), .val (.int (0 : Int32)), .val (.ref b4), .val (.int (0 : Int32)), .unset, .unset, .unset, .unset] [(.int (0 : Int32)), (.int (1 : Int32)), (.ref b4)])) tz → Steps p.tables e below (T4.setTop (mkF m 79 #[.val (.ref a1), .val (.int (4 : Int32)), .val (.ref o2), .val (.int (0 : Int32)), .val (.ref b4), .val (.int (0 : Int32)), .unset, .unset, .unset, .unset] [(.int (0 : Int32)), (.int (0 : Int32)), (.int (1 : Int32)), (.ref b4)])) tz := by
    intro tz kz
    refine XS.iadd X4.here hx rfl (hb hby d1_79) rfl ?_
    exact kz
  refine OG.step s12 ?_
  have av13 := V4
  obtain ⟨cl13, Ar13, qa_13, Sa_13, Nn_13, Ha_13, Ga_13⟩ := av13
  have hin13 : ¬ ((1 : Int32) < 0 ∨ cl13.slots.size ≤ ((1 : Int32)).toNatClampNeg) := inb_of Sa_13 ⟨(by decide), (by decide)⟩
  obtain ⟨T14, h14, X14, e14, W14, st14⟩ := stI X4 hx hZ e4 Ar13 (j := (1 : Int32)) hin13 (g := (mkF m 80 #[.val (.ref a1), .val (.int (4 : Int32)), .val (.ref o2), .val (.int (0 : Int32)), .val (.ref b4), .val (.int (0 : Int32)), .unset, .unset, .unset, .unset] [(.int (0 : Int32)), (.int (1 : Int32)), (.ref b4)])) rfl rfl (hb hby d1_80)
  refine OG.step st14 ?_
  have Va14 := Arv.set Ar13 qa_13 Sa_13 Nn_13 Ha_13 Ga_13 rfl W14 (1) (by decide) (Nat.le_of_ble_eq_true rfl)
  have V14 : Arv Z h14 b4 k4 .int (5 : Int32) [(.int (0 : Int32)), (.int (0 : Int32)), (.int (0 : Int32)), (.int (0 : Int32)), (.int (0 : Int32))] (.int (0 : Int32)) := Va14
  have f15 := f5.wr W14
  have f16 := f6.other W14 (Or.inl ne4_a1)
  have f17 := f7.other W14 (Or.inl ne4_a1)
  have f18 := Ex4.wr W14
  have K14 := K4.wr W14 (Or.inr sz4)
  have N14 := Fr.snoc X14 N0 ge4
  obtain ⟨Lz19, X14, N14⟩ : ∃ Lz, Stand p l e rom_1 s m #[(.ref a1), (.int (4 : Int32)), (.ref o2), (.int (0 : Int32))] below meth c T14 Lz 1 5 ∧ Fr n0 Lz := ⟨_, X14, N14⟩
  show OG _ _ _ _ _ _ _ (T14.setTop (mkF m 81 #[.val (.ref a1), .val (.int (4 : Int32)), .val (.ref o2), .val (.int (0 : Int32)), .val (.ref b4), .val (.int (0 : Int32)), .unset, .unset, .unset, .unset] []))
  have s20 : ∀ tz, Steps p.tables e below (T14.setTop (mkF m 73 #[.val (.ref a1), .val (.int (4 : Int32)), .val (.ref o2), .val (.int (0 : Int32)), .val (.ref b4), .val (.int (1 : Int32)), .unset, .unset, .unset, .unset] [(.int (2 : Int32)), (.ref b4), (.int (2 : Int32)), (.ref b4)])) tz → Steps p.tables e below (T14.setTop (mkF m 81 #[.val (.ref a1), .val (.int (4 : Int32)), .val (.ref o2), .val (.int (0 : Int32)), .val (.ref b4), .val (.int (0 : Int32)), .unset, .unset, .unset, .unset] [])) tz := by
    intro tz kz
    refine XS.iinc X14.here hx rfl (hb hby d1_81) rfl (l' := #[.val (.ref a1), .val (.int (4 : Int32)), .val (.ref o2), .val (.int (0 : Int32)), .val (.ref b4), .val (.int (1 : Int32)), .unset, .unset, .unset, .unset]) rfl ?_
    refine XS.goto X14.here hx rfl (pc0 := 84) (pc' := 60) rfl (hb hby d1_84) (by decide) (by decide) ?_
    refine XS.iload X14.here hx rfl (hb hby d1_60) rfl ?_
    refine XS.iloadN X14.here hx rfl (hb hby d1_62) rfl ?_
    refine XS.icmpNo X14.here hx rfl (hb hby d1_63) rfl (tlt (by decide)).2.1 ?_
    show Steps p.tables e below (T14.setTop (mkF m 66 #[.val (.ref a1), .val (.int (4 : Int32)), .val (.ref o2), .val (.int (0 : Int32)), .val (.ref b4), .val (.int (1 : Int32)), .unset, .unset, .unset, .unset] [])) _
    refine XS.aload X14.here hx rfl (hb hby d1_66) rfl rfl ?_
    refine XS.iload X14.here hx rfl (hb hby d1_68) rfl ?_
    refine XS.iconst X14.here hx rfl (hb hby d1_70) ?_
    refine XS.iadd X14.here hx rfl (hb hby d1_71) rfl ?_
    refine XT.dup2 X14.here hx rfl (hb hby d1_72) rfl rfl rfl ?_
    exact kz
  refine OG.step s20 ?_
  have av21 := V14
  obtain ⟨cl21, Ar21, qa_21, Sa_21, Nn_21, Ha_21, Ga_21⟩ := av21
  have hin21 : ¬ ((2 : Int32) < 0 ∨ cl21.slots.size ≤ ((2 : Int32)).toNatClampNeg) := inb_of Sa_21 ⟨(by decide), (by decide)⟩
  have hat21 : cl21.slots[((2 : Int32)).toNatClampNeg]? = some (.int (0 : Int32)) := Ha_21.at hin21 rfl
  refine OG.step (X14.iaload hx (j := (2 : Int32)) (v := (.int (0 : Int32))) (by rw [e14]; exact Ar21.1) (State.isArrayOf_alike hZ.alike Ar21.2.1) Ar21.2.2 hin21 hat21 (g := (mkF m 73 #[.val (.ref a1), .val (.int (4 : Int32)), .val (.ref o2), .val (.int (0 : Int32)), .val (.ref b4), .val (.int (1 : Int32)), .unset, .unset, .unset, .unset] [(.int (2 : Int32)), (.ref b4), (.int (2 : Int32)), (.ref b4)])) rfl rfl (hb hby d1_73)) ?_
  show OG _ _ _ _ _ _ _ (T14.setTop (mkF m 74 #[.val (.ref a1), .val (.int (4 : Int32)), .val (.ref o2), .val (.int (0 : Int32)), .val (.ref b4), .val (.int (1 : Int32)), .unset, .unset, .unset, .unset] [(.int (0 : Int32)), (.int (2 : Int32)), (.ref b4)]))
  have s22 : ∀ tz, Steps p.tables e below (T14.setTop (mkF m 78 #[.val (.ref a1), .val (.int (4 : Int32)), .val (.ref o2), .val (.int (0 : Int32)), .val (.ref b4), .val (.int (1 : Int32)), .unset, .unset, .unset, .unset] [(.int (1 : Int32)), (.ref b4), (.int (0 : Int32)), (.int (2 : Int32)), (.ref b4)])) tz → Steps p.tables e below (T14.setTop (mkF m 74 #[.val (.ref a1), .val (.int (4 : Int32)), .val (.ref o2), .val (.int (0 : Int32)), .val (.ref b4), .val (.int (1 : Int32)), .unset, .unset, .unset, .unset] [(.int (0 : Int32)), (.int (2 : Int32)), (.ref b4)])) tz := by
    intro tz kz
    refine XS.aload X14.here hx rfl (hb hby d1_74) rfl rfl ?_
    refine XS.iload X14.here hx rfl (hb hby d1_76) rfl ?_
    exact kz
  refine OG.step s22 ?_
  have av23 := V14
  obtain ⟨cl23, Ar23, qa_23, Sa_23, Nn_23, Ha_23, Ga_23⟩ := av23
  have hin23 : ¬ ((1 : Int32) < 0 ∨ cl23.slots.size ≤ ((1 : Int32)).toNatClampNeg) := inb_of Sa_23 ⟨(by decide), (by decide)⟩
  have hat23 : cl23.slots[((1 : Int32)).toNatClampNeg]? = some (.int (0 : Int32)) := Ha_23.at hin23 rfl
  refine OG.step (X14.iaload hx (j := (1 : Int32)) (v := (.int (0 : Int32))) (by rw [e14]; exact Ar23.1) (State.isArrayOf_alike hZ.alike Ar23.2.1) Ar23.2.2 hin23 hat23 (g := (mkF m 78 #[.val (.ref a1), .val (.int (4 : Int32)), .val (.ref o2), .val (.int (0 : Int32)), .val (.ref b4), .val (.int (1 : Int32)), .unset, .unset, .unset, .unset] [(.int (1 : Int32)), (.ref b4), (.int (0 : Int32)), (.int (2 : Int32)), (.ref b4)])) rfl rfl (hb hby d1_78)) ?_
  show OG _ _ _ _ _ _ _ (T14.setTop (mkF m 79 #[.val (.ref a1), .val (.int (4 : Int32)), .val (.ref o2), .val (.int (0 : Int32)), .val (.ref b4), .val (.int (1 : Int32)), .unset, .unset, .unset, .unset] [(.int (0 : Int32)), (.int (0 : Int32)), (.int (2 : Int32)), (.ref b4)]))
  have s24 : ∀ tz, Steps p.tables e below (T14.setTop (mkF m 80 #[.val (.ref a1), .val (.int (4 : Int32)), .val (.ref o2), .val (.int (0 : Int32)), .val (.ref b4), .val (.int (1 : Int32)), .unset, .unset, .unset, .unset] [(.int (0 : Int32)), (.int (2 : Int32)), (.ref b4)])) tz → Steps p.tables e below (T14.setTop (mkF m 79 #[.val (.ref a1), .val (.int (4 : Int32)), .val (.ref o2), .val (.int (0 : Int32)), .val (.ref b4), .val (.int (1 : Int32)), .unset, .unset, .unset, .unset] [(.int (0 : Int32)), (.int (0 : Int32)), (.int (2 : Int32)), (.ref b4)])) tz := by
    intro tz kz
    refine XS.iadd X14.here hx rfl (hb hby d1_79) rfl ?_
    exact kz
  refine OG.step s24 ?_
  have av25 := V14
  obtain ⟨cl25, Ar25, qa_25, Sa_25, Nn_25, Ha_25, Ga_25⟩ := av25
  have hin25 : ¬ ((2 : Int32) < 0 ∨ cl25.slots.size ≤ ((2 : Int32)).toNatClampNeg) := inb_of Sa_25 ⟨(by decide), (by decide)⟩
  obtain ⟨T26, h26, X26, e26, W26, st26⟩ := stI X14 hx hZ e14 Ar25 (j := (2 : Int32)) hin25 (g := (mkF m 80 #[.val (.ref a1), .val (.int (4 : Int32)), .val (.ref o2), .val (.int (0 : Int32)), .val (.ref b4), .val (.int (1 : Int32)), .unset, .unset, .unset, .unset] [(.int (0 : Int32)), (.int (2 : Int32)), (.ref b4)])) rfl rfl (hb hby d1_80)
  refine OG.step st26 ?_
  have Va26 := Arv.set Ar25 qa_25 Sa_25 Nn_25 Ha_25 Ga_25 rfl W26 (2) (by decide) (Nat.le_of_ble_eq_true rfl)
  have V26 : Arv Z h26 b4 k4 .int (5 : Int32) [(.int (0 : Int32)), (.int (0 : Int32)), (.int (0 : Int32)), (.int (0 : Int32)), (.int (0 : Int32))] (.int (0 : Int32)) := Va26
  have f27 := f15.wr W26
  have f28 := f16.other W26 (Or.inl ne4_a1)
  have f29 := f17.other W26 (Or.inl ne4_a1)
  have f30 := f18.wr W26
  have K26 := K14.wr W26 (Or.inr sz4)
  have N26 := Fr.snoc X26 N14 ge4
  obtain ⟨Lz31, X26, N26⟩ : ∃ Lz, Stand p l e rom_1 s m #[(.ref a1), (.int (4 : Int32)), (.ref o2), (.int (0 : Int32))] below meth c T26 Lz 1 5 ∧ Fr n0 Lz := ⟨_, X26, N26⟩
  show OG _ _ _ _ _ _ _ (T26.setTop (mkF m 81 #[.val (.ref a1), .val (.int (4 : Int32)), .val (.ref o2), .val (.int (0 : Int32)), .val (.ref b4), .val (.int (1 : Int32)), .unset, .unset, .unset, .unset] []))
  have s32 : ∀ tz, Steps p.tables e below (T26.setTop (mkF m 73 #[.val (.ref a1), .val (.int (4 : Int32)), .val (.ref o2), .val (.int (0 : Int32)), .val (.ref b4), .val (.int (2 : Int32)), .unset, .unset, .unset, .unset] [(.int (3 : Int32)), (.ref b4), (.int (3 : Int32)), (.ref b4)])) tz → Steps p.tables e below (T26.setTop (mkF m 81 #[.val (.ref a1), .val (.int (4 : Int32)), .val (.ref o2), .val (.int (0 : Int32)), .val (.ref b4), .val (.int (1 : Int32)), .unset, .unset, .unset, .unset] [])) tz := by
    intro tz kz
    refine XS.iinc X26.here hx rfl (hb hby d1_81) rfl (l' := #[.val (.ref a1), .val (.int (4 : Int32)), .val (.ref o2), .val (.int (0 : Int32)), .val (.ref b4), .val (.int (2 : Int32)), .unset, .unset, .unset, .unset]) rfl ?_
    refine XS.goto X26.here hx rfl (pc0 := 84) (pc' := 60) rfl (hb hby d1_84) (by decide) (by decide) ?_
    refine XS.iload X26.here hx rfl (hb hby d1_60) rfl ?_
    refine XS.iloadN X26.here hx rfl (hb hby d1_62) rfl ?_
    refine XS.icmpNo X26.here hx rfl (hb hby d1_63) rfl (tlt (by decide)).2.1 ?_
    show Steps p.tables e below (T26.setTop (mkF m 66 #[.val (.ref a1), .val (.int (4 : Int32)), .val (.ref o2), .val (.int (0 : Int32)), .val (.ref b4), .val (.int (2 : Int32)), .unset, .unset, .unset, .unset] [])) _
    refine XS.aload X26.here hx rfl (hb hby d1_66) rfl rfl ?_
    refine XS.iload X26.here hx rfl (hb hby d1_68) rfl ?_
    refine XS.iconst X26.here hx rfl (hb hby d1_70) ?_
    refine XS.iadd X26.here hx rfl (hb hby d1_71) rfl ?_
    refine XT.dup2 X26.here hx rfl (hb hby d1_72) rfl rfl rfl ?_
    exact kz
  refine OG.step s32 ?_
  have av33 := V26
  obtain ⟨cl33, Ar33, qa_33, Sa_33, Nn_33, Ha_33, Ga_33⟩ := av33
  have hin33 : ¬ ((3 : Int32) < 0 ∨ cl33.slots.size ≤ ((3 : Int32)).toNatClampNeg) := inb_of Sa_33 ⟨(by decide), (by decide)⟩
  have hat33 : cl33.slots[((3 : Int32)).toNatClampNeg]? = some (.int (0 : Int32)) := Ha_33.at hin33 rfl
  refine OG.step (X26.iaload hx (j := (3 : Int32)) (v := (.int (0 : Int32))) (by rw [e26]; exact Ar33.1) (State.isArrayOf_alike hZ.alike Ar33.2.1) Ar33.2.2 hin33 hat33 (g := (mkF m 73 #[.val (.ref a1), .val (.int (4 : Int32)), .val (.ref o2), .val (.int (0 : Int32)), .val (.ref b4), .val (.int (2 : Int32)), .unset, .unset, .unset, .unset] [(.int (3 : Int32)), (.ref b4), (.int (3 : Int32)), (.ref b4)])) rfl rfl (hb hby d1_73)) ?_
  show OG _ _ _ _ _ _ _ (T26.setTop (mkF m 74 #[.val (.ref a1), .val (.int (4 : Int32)), .val (.ref o2), .val (.int (0 : Int32)), .val (.ref b4), .val (.int (2 : Int32)), .unset, .unset, .unset, .unset] [(.int (0 : Int32)), (.int (3 : Int32)), (.ref b4)]))
  have s34 : ∀ tz, Steps p.tables e below (T26.setTop (mkF m 78 #[.val (.ref a1), .val (.int (4 : Int32)), .val (.ref o2), .val (.int (0 : Int32)), .val (.ref b4), .val (.int (2 : Int32)), .unset, .unset, .unset, .unset] [(.int (2 : Int32)), (.ref b4), (.int (0 : Int32)), (.int (3 : Int32)), (.ref b4)])) tz → Steps p.tables e below (T26.setTop (mkF m 74 #[.val (.ref a1), .val (.int (4 : Int32)), .val (.ref o2), .val (.int (0 : Int32)), .val (.ref b4), .val (.int (2 : Int32)), .unset, .unset, .unset, .unset] [(.int (0 : Int32)), (.int (3 : Int32)), (.ref b4)])) tz := by
    intro tz kz
    refine XS.aload X26.here hx rfl (hb hby d1_74) rfl rfl ?_
    refine XS.iload X26.here hx rfl (hb hby d1_76) rfl ?_
    exact kz
  refine OG.step s34 ?_
  have av35 := V26
  obtain ⟨cl35, Ar35, qa_35, Sa_35, Nn_35, Ha_35, Ga_35⟩ := av35
  have hin35 : ¬ ((2 : Int32) < 0 ∨ cl35.slots.size ≤ ((2 : Int32)).toNatClampNeg) := inb_of Sa_35 ⟨(by decide), (by decide)⟩
  have hat35 : cl35.slots[((2 : Int32)).toNatClampNeg]? = some (.int (0 : Int32)) := Ha_35.at hin35 rfl
  refine OG.step (X26.iaload hx (j := (2 : Int32)) (v := (.int (0 : Int32))) (by rw [e26]; exact Ar35.1) (State.isArrayOf_alike hZ.alike Ar35.2.1) Ar35.2.2 hin35 hat35 (g := (mkF m 78 #[.val (.ref a1), .val (.int (4 : Int32)), .val (.ref o2), .val (.int (0 : Int32)), .val (.ref b4), .val (.int (2 : Int32)), .unset, .unset, .unset, .unset] [(.int (2 : Int32)), (.ref b4), (.int (0 : Int32)), (.int (3 : Int32)), (.ref b4)])) rfl rfl (hb hby d1_78)) ?_
  show OG _ _ _ _ _ _ _ (T26.setTop (mkF m 79 #[.val (.ref a1), .val (.int (4 : Int32)), .val (.ref o2), .val (.int (0 : Int32)), .val (.ref b4), .val (.int (2 : Int32)), .unset, .unset, .unset, .unset] [(.int (0 : Int32)), (.int (0 : Int32)), (.int (3 : Int32)), (.ref b4)]))
  have s36 : ∀ tz, Steps p.tables e below (T26.setTop (mkF m 80 #[.val (.ref a1), .val (.int (4 : Int32)), .val (.ref o2), .val (.int (0 : Int32)), .val (.ref b4), .val (.int (2 : Int32)), .unset, .unset, .unset, .unset] [(.int (0 : Int32)), (.int (3 : Int32)), (.ref b4)])) tz → Steps p.tables e below (T26.setTop (mkF m 79 #[.val (.ref a1), .val (.int (4 : Int32)), .val (.ref o2), .val (.int (0 : Int32)), .val (.ref b4), .val (.int (2 : Int32)), .unset, .unset, .unset, .unset] [(.int (0 : Int32)), (.int (0 : Int32)), (.int (3 : Int32)), (.ref b4)])) tz := by
    intro tz kz
    refine XS.iadd X26.here hx rfl (hb hby d1_79) rfl ?_
    exact kz
  refine OG.step s36 ?_
  have av37 := V26
  obtain ⟨cl37, Ar37, qa_37, Sa_37, Nn_37, Ha_37, Ga_37⟩ := av37
  have hin37 : ¬ ((3 : Int32) < 0 ∨ cl37.slots.size ≤ ((3 : Int32)).toNatClampNeg) := inb_of Sa_37 ⟨(by decide), (by decide)⟩
  obtain ⟨T38, h38, X38, e38, W38, st38⟩ := stI X26 hx hZ e26 Ar37 (j := (3 : Int32)) hin37 (g := (mkF m 80 #[.val (.ref a1), .val (.int (4 : Int32)), .val (.ref o2), .val (.int (0 : Int32)), .val (.ref b4), .val (.int (2 : Int32)), .unset, .unset, .unset, .unset] [(.int (0 : Int32)), (.int (3 : Int32)), (.ref b4)])) rfl rfl (hb hby d1_80)
  refine OG.step st38 ?_
  have Va38 := Arv.set Ar37 qa_37 Sa_37 Nn_37 Ha_37 Ga_37 rfl W38 (3) (by decide) (Nat.le_of_ble_eq_true rfl)
  have V38 : Arv Z h38 b4 k4 .int (5 : Int32) [(.int (0 : Int32)), (.int (0 : Int32)), (.int (0 : Int32)), (.int (0 : Int32)), (.int (0 : Int32))] (.int (0 : Int32)) := Va38
  have f39 := f27.wr W38
  have f40 := f28.other W38 (Or.inl ne4_a1)
  have f41 := f29.other W38 (Or.inl ne4_a1)
  have f42 := f30.wr W38
  have K38 := K26.wr W38 (Or.inr sz4)
  have N38 := Fr.snoc X38 N26 ge4
  obtain ⟨Lz43, X38, N38⟩ : ∃ Lz, Stand p l e rom_1 s m #[(.ref a1), (.int (4 : Int32)), (.ref o2), (.int (0 : Int32))] below meth c T38 Lz 1 5 ∧ Fr n0 Lz := ⟨_, X38, N38⟩
  show OG _ _ _ _ _ _ _ (T38.setTop (mkF m 81 #[.val (.ref a1), .val (.int (4 : Int32)), .val (.ref o2), .val (.int (0 : Int32)), .val (.ref b4), .val (.int (2 : Int32)), .unset, .unset, .unset, .unset] []))
  have s44 : ∀ tz, Steps p.tables e below (T38.setTop (mkF m 73 #[.val (.ref a1), .val (.int (4 : Int32)), .val (.ref o2), .val (.int (0 : Int32)), .val (.ref b4), .val (.int (3 : Int32)), .unset, .unset, .unset, .unset] [(.int (4 : Int32)), (.ref b4), (.int (4 : Int32)), (.ref b4)])) tz → Steps p.tables e below (T38.setTop (mkF m 81 #[.val (.ref a1), .val (.int (4 : Int32)), .val (.ref o2), .val (.int (0 : Int32)), .val (.ref b4), .val (.int (2 : Int32)), .unset, .unset, .unset, .unset] [])) tz := by
    intro tz kz
    refine XS.iinc X38.here hx rfl (hb hby d1_81) rfl (l' := #[.val (.ref a1), .val (.int (4 : Int32)), .val (.ref o2), .val (.int (0 : Int32)), .val (.ref b4), .val (.int (3 : Int32)), .unset, .unset, .unset, .unset]) rfl ?_
    refine XS.goto X38.here hx rfl (pc0 := 84) (pc' := 60) rfl (hb hby d1_84) (by decide) (by decide) ?_
    refine XS.iload X38.here hx rfl (hb hby d1_60) rfl ?_
    refine XS.iloadN X38.here hx rfl (hb hby d1_62) rfl ?_
    refine XS.icmpNo X38.here hx rfl (hb hby d1_63) rfl (tlt (by decide)).2.1 ?_
    show Steps p.tables e below (T38.setTop (mkF m 66 #[.val (.ref a1), .val (.int (4 : Int32)), .val (.ref o2), .val (.int (0 : Int32)), .val (.ref b4), .val (.int (3 : Int32)), .unset, .unset, .unset, .unset] [])) _
    refine XS.aload X38.here hx rfl (hb hby d1_66) rfl rfl ?_
    refine XS.iload X38.here hx rfl (hb hby d1_68) rfl ?_
    refine XS.iconst X38.here hx rfl (hb hby d1_70) ?_
    refine XS.iadd X38.here hx rfl (hb hby d1_71) rfl ?_
    refine XT.dup2 X38.here hx rfl (hb hby d1_72) rfl rfl rfl ?_
    exact kz
  refine OG.step s44 ?_
  have av45 := V38
  obtain ⟨cl45, Ar45, qa_45, Sa_45, Nn_45, Ha_45, Ga_45⟩ := av45
  have hin45 : ¬ ((4 : Int32) < 0 ∨ cl45.slots.size ≤ ((4 : Int32)).toNatClampNeg) := inb_of Sa_45 ⟨(by decide), (by decide)⟩
  have hat45 : cl45.slots[((4 : Int32)).toNatClampNeg]? = some (.int (0 : Int32)) := Ha_45.at hin45 rfl
  refine OG.step (X38.iaload hx (j := (4 : Int32)) (v := (.int (0 : Int32))) (by rw [e38]; exact Ar45.1) (State.isArrayOf_alike hZ.alike Ar45.2.1) Ar45.2.2 hin45 hat45 (g := (mkF m 73 #[.val (.ref a1), .val (.int (4 : Int32)), .val (.ref o2), .val (.int (0 : Int32)), .val (.ref b4), .val (.int (3 : Int32)), .unset, .unset, .unset, .unset] [(.int (4 : Int32)), (.ref b4), (.int (4 : Int32)), (.ref b4)])) rfl rfl (hb hby d1_73)) ?_
  show OG _ _ _ _ _ _ _ (T38.setTop (mkF m 74 #[.val (.ref a1), .val (.int (4 : Int32)), .val (.ref o2), .val (.int (0 : Int32)), .val (.ref b4), .val (.int (3 : Int32)), .unset, .unset, .unset, .unset] [(.int (0 : Int32)), (.int (4 : Int32)), (.ref b4)]))
  have s46 : ∀ tz, Steps p.tables e below (T38.setTop (mkF m 78 #[.val (.ref a1), .val (.int (4 : Int32)), .val (.ref o2), .val (.int (0 : Int32)), .val (.ref b4), .val (.int (3 : Int32)), .unset, .unset, .unset, .unset] [(.int (3 : Int32)), (.ref b4), (.int (0 : Int32)), (.int (4 : Int32)), (.ref b4)])) tz → Steps p.tables e below (T38.setTop (mkF m 74 #[.val (.ref a1), .val (.int (4 : Int32)), .val (.ref o2), .val (.int (0 : Int32)), .val (.ref b4), .val (.int (3 : Int32)), .unset, .unset, .unset, .unset] [(.int (0 : Int32)), (.int (4 : Int32)), (.ref b4)])) tz := by
    intro tz kz
    refine XS.aload X38.here hx rfl (hb hby d1_74) rfl rfl ?_
    refine XS.iload X38.here hx rfl (hb hby d1_76) rfl ?_
    exact kz
  refine OG.step s46 ?_
  have av47 := V38
  obtain ⟨cl47, Ar47, qa_47, Sa_47, Nn_47, Ha_47, Ga_47⟩ := av47
  have hin47 : ¬ ((3 : Int32) < 0 ∨ cl47.slots.size ≤ ((3 : Int32)).toNatClampNeg) := inb_of Sa_47 ⟨(by decide), (by decide)⟩
  have hat47 : cl47.slots[((3 : Int32)).toNatClampNeg]? = some (.int (0 : Int32)) := Ha_47.at hin47 rfl
  refine OG.step (X38.iaload hx (j := (3 : Int32)) (v := (.int (0 : Int32))) (by rw [e38]; exact Ar47.1) (State.isArrayOf_alike hZ.alike Ar47.2.1) Ar47.2.2 hin47 hat47 (g := (mkF m 78 #[.val (.ref a1), .val (.int (4 : Int32)), .val (.ref o2), .val (.int (0 : Int32)), .val (.ref b4), .val (.int (3 : Int32)), .unset, .unset, .unset, .unset] [(.int (3 : Int32)), (.ref b4), (.int (0 : Int32)), (.int (4 : Int32)), (.ref b4)])) rfl rfl (hb hby d1_78)) ?_
  show OG _ _ _ _ _ _ _ (T38.setTop (mkF m 79 #[.val (.ref a1), .val (.int (4 : Int32)), .val (.ref o2), .val (.int (0 : Int32)), .val (.ref b4), .val (.int (3 : Int32)), .unset, .unset, .unset, .unset] [(.int (0 : Int32)), (.int (0 : Int32)), (.int (4 : Int32)), (.ref b4)]))
  have s48 : ∀ tz, Steps p.tables e below (T38.setTop (mkF m 80 #[.val (.ref a1), .val (.int (4 : Int32)), .val (.ref o2), .val (.int (0 : Int32)), .val (.ref b4), .val (.int (3 : Int32)), .unset, .unset, .unset, .unset] [(.int (0 : Int32)), (.int (4 : Int32)), (.ref b4)])) tz → Steps p.tables e below (T38.setTop (mkF m 79 #[.val (.ref a1), .val (.int (4 : Int32)), .val (.ref o2), .val (.int (0 : Int32)), .val (.ref b4), .val (.int (3 : Int32)), .unset, .unset, .unset, .unset] [(.int (0 : Int32)), (.int (0 : Int32)), (.int (4 : Int32)), (.ref b4)])) tz := by
    intro tz kz
    refine XS.iadd X38.here hx rfl (hb hby d1_79) rfl ?_
    exact kz
  refine OG.step s48 ?_
  have av49 := V38
  obtain ⟨cl49, Ar49, qa_49, Sa_49, Nn_49, Ha_49, Ga_49⟩ := av49
  have hin49 : ¬ ((4 : Int32) < 0 ∨ cl49.slots.size ≤ ((4 : Int32)).toNatClampNeg) := inb_of Sa_49 ⟨(by decide), (by decide)⟩
  obtain ⟨T50, h50, X50, e50, W50, st50⟩ := stI X38 hx hZ e38 Ar49 (j := (4 : Int32)) hin49 (g := (mkF m 80 #[.val (.ref a1), .val (.int (4 : Int32)), .val (.ref o2), .val (.int (0 : Int32)), .val (.ref b4), .val (.int (3 : Int32)), .unset, .unset, .unset, .unset] [(.int (0 : Int32)), (.int (4 : Int32)), (.ref b4)])) rfl rfl (hb hby d1_80)
  refine OG.step st50 ?_
  have Va50 := Arv.set Ar49 qa_49 Sa_49 Nn_49 Ha_49 Ga_49 rfl W50 (4) (by decide) (Nat.le_of_ble_eq_true rfl)
  have V50 : Arv Z h50 b4 k4 .int (5 : Int32) [(.int (0 : Int32)), (.int (0 : Int32)), (.int (0 : Int32)), (.int (0 : Int32)), (.int (0 : Int32))] (.int (0 : Int32)) := Va50
  have f51 := f39.wr W50
  have f52 := f40.other W50 (Or.inl ne4_a1)
  have f53 := f41.other W50 (Or.inl ne4_a1)
  have f54 := f42.wr W50
  have K50 := K38.wr W50 (Or.inr sz4)
  have N50 := Fr.snoc X50 N38 ge4
  obtain ⟨Lz55, X50, N50⟩ : ∃ Lz, Stand p l e rom_1 s m #[(.ref a1), (.int (4 : Int32)), (.ref o2), (.int (0 : Int32))] below meth c T50 Lz 1 5 ∧ Fr n0 Lz := ⟨_, X50, N50⟩
  show OG _ _ _ _ _ _ _ (T50.setTop (mkF m 81 #[.val (.ref a1), .val (.int (4 : Int32)), .val (.ref o2), .val (.int (0 : Int32)), .val (.ref b4), .val (.int (3 : Int32)), .unset, .unset, .unset, .unset] []))
  have s56 : ∀ tz, Steps p.tables e below (T50.setTop (mkF m 90 #[.val (.ref a1), .val (.int (4 : Int32)), .val (.ref o2), .val (.int (0 : Int32)), .val (.ref b4), .val (.int (4 : Int32)), .unset, .unset, .unset, .unset] [(.int (0 : Int32))])) tz → Steps p.tables e below (T50.setTop (mkF m 81 #[.val (.ref a1), .val (.int (4 : Int32)), .val (.ref o2), .val (.int (0 : Int32)), .val (.ref b4), .val (.int (3 : Int32)), .unset, .unset, .unset, .unset] [])) tz := by
    intro tz kz
    refine XS.iinc X50.here hx rfl (hb hby d1_81) rfl (l' := #[.val (.ref a1), .val (.int (4 : Int32)), .val (.ref o2), .val (.int (0 : Int32)), .val (.ref b4), .val (.int (4 : Int32)), .unset, .unset, .unset, .unset]) rfl ?_
    refine XS.goto X50.here hx rfl (pc0 := 84) (pc' := 60) rfl (hb hby d1_84) (by decide) (by decide) ?_
    refine XS.iload X50.here hx rfl (hb hby d1_60) rfl ?_
    refine XS.iloadN X50.here hx rfl (hb hby d1_62) rfl ?_
    refine XS.icmpYes X50.here hx rfl (pc0 := 63) (pc' := 87) rfl (hb hby d1_63) rfl (flt (by decide)).2.1 (by decide) (by decide) ?_
    show Steps p.tables e below (T50.setTop (mkF m 87 #[.val (.ref a1), .val (.int (4 : Int32)), .val (.ref o2), .val (.int (0 : Int32)), .val (.ref b4), .val (.int (4 : Int32)), .unset, .unset, .unset, .unset] [])) _
    refine XS.iconst X50.here hx rfl (hb hby d1_87) ?_
    refine XS.iloadN X50.here hx rfl (hb hby d1_88) rfl ?_
    refine XS.imul X50.here hx rfl (hb hby d1_89) rfl ?_
    exact kz
  refine OG.step s56 ?_
  obtain ⟨T57, h57, k57, X57, e57, E57, A57, Ex57, st57⟩ := newPE X50 hx hZ (hw _ (List.mem_of_getElem? (i := 10) rfl)) e50 (g := (mkF m 90 #[.val (.ref a1), .val (.int (4 : Int32)), .val (.ref o2), .val (.int (0 : Int32)), .val (.ref b4), .val (.int (4 : Int32)), .unset, .unset, .unset, .unset] [(.int (0 : Int32))])) rfl (hb hby d1_90) rfl (by decide) (cap := 0) (by decide) (by decide) (by decide) (by decide) (ad := "[I") (by decide)
  obtain ⟨b57, g57⟩ : ∃ z, z = h50.size := ⟨_, rfl⟩
  rw [← g57] at A57 Ex57 st57
  have sz57 : h0.size ≤ b57 := Nat.le_trans K50.1 (Nat.le_of_eq g57.symm)
  have ge57 : n0 ≤ b57 := Nat.le_trans Z0 sz57
  have ne57_a1 : a1 ≠ b57 := Nat.ne_of_lt (Nat.lt_of_lt_of_le f51.lt (Nat.le_of_eq g57.symm))
  have ne57_b4 : b4 ≠ b57 := Nat.ne_of_lt (Nat.lt_of_lt_of_le f54.lt (Nat.le_of_eq g57.symm))
  refine OG.step st57 ?_
  have f58 := f51.ext E57
  have f59 := f52.ext E57
  have f60 := f53.ext E57
  have f61 := f54.ext E57
  have f62 := V50.ext E57
  have V57 : Arv Z h57 b57 k57 .int (0 : Int32) [] (.int (0 : Int32)) := (Arv.new A57 (by decide)).pad (pad_rep [] (.int (0 : Int32)) 0)
  have K57 := K50.ext E57
  show OG _ _ _ _ _ _ _ (T57.setTop (mkF m 92 #[.val (.ref a1), .val (.int (4 : Int32)), .val (.ref o2), .val (.int (0 : Int32)), .val (.ref b4), .val (.int (4 : Int32)), .unset, .unset, .unset, .unset] [(.ref b57)]))
  have s63 : ∀ tz, Steps p.tables e below (T57.setTop (mkF m 97 #[.val (.ref a1), .val (.int (4 : Int32)), .val (.ref o2), .val (.int (0 : Int32)), .val (.ref b4), .val (.ref b57), .unset, .unset, .unset, .unset] [(.int (4 : Int32)), (.ref b4)])) tz → Steps p.tables e below (T57.setTop (mkF m 92 #[.val (.ref a1), .val (.int (4 : Int32)), .val (.ref o2), .val (.int (0 : Int32)), .val (.ref b4), .val (.int (4 : Int32)), .unset, .unset, .unset, .unset] [(.ref b57)])) tz := by
    intro tz kz
    refine XS.astore X57.here hx rfl (hb hby d1_92) rfl rfl (l' := #[.val (.ref a1), .val (.int (4 : Int32)), .val (.ref o2), .val (.int (0 : Int32)), .val (.ref b4), .val (.ref b57), .unset, .unset, .unset, .unset]) rfl ?_
    refine XS.aload X57.here hx rfl (hb hby d1_94) rfl rfl ?_
    refine XS.iloadN X57.here hx rfl (hb hby d1_96) rfl ?_
    exact kz
  refine OG.step s63 ?_
  obtain ⟨_, _, ⟨T64, L64, k64, n64⟩, -, X64, ⟨Lc64, hQ64, l64, y64, z64⟩, st64⟩ := Jvm.LawKit.callS X57 hx (y := (⟨"java/util/Arrays", "copyOf", "([II)[I"⟩ : MethodName)) hown (mvT hZ (hw _ (List.mem_of_getElem? (i := 11) rfl))) (mvT hZ (hw _ (List.mem_of_getElem? (i := 12) rfl))) (mvT hZ (hw _ (List.mem_of_getElem? (i := 13) rfl))) (mvT hZ (hw _ (List.mem_of_getElem? (i := 14) rfl))) (by decide) (backOf (W := 0) (rm3a l Z a0 hw [] b4 k4 h57 n0 (Nat.le_trans Z0 K57.1) f62) hZ (hw _ (List.mem_of_getElem? (i := 14) rfl)) (hw _ (List.mem_of_getElem? (i := 13) rfl)) (by decide) (by decide)) (g := (mkF m 97 #[.val (.ref a1), .val (.int (4 : Int32)), .val (.ref o2), .val (.int (0 : Int32)), .val (.ref b4), .val (.ref b57), .unset, .unset, .unset, .unset] [(.int (4 : Int32)), (.ref b4)])) rfl (by rw [hml]; rfl) (argsL := [(.ref b4), (.int (4 : Int32))]) (rest := []) (lenOf pd___II__I rfl) rfl (by show 2 * 0 + _ ≤ _; exact Nat.le_of_eq rfl) (hb hby d1_97) (fun _ _ => ⟨rfl, e57, (by decide : 2 + 1 ≤ _), (by decide : 5 + 4 ≤ _)⟩)
  dsimp only [Pt.U, Pt.locs, Pt.cells, Pt.slots] at X64 l64 y64 z64 st64 hQ64
  subst l64 y64 z64
  obtain ⟨b1_64, rfl, N64q, Kc64, u64_0⟩ := hQ64
  have N64 := Fr.app N50 N64q
  refine OG.step st64 ?_
  have f65 := f58.keep Kc64
  have f66 := f59.keep Kc64 nin0
  have f67 := f60.keep Kc64 nin0
  have f68 := f61.keep Kc64
  have f69 := f62.keep Kc64 nin0
  have f70 := Ex57.keep Kc64
  have f71 := V57.keep Kc64 nin0
  have K64 := K57.trans Kc64 all0
  obtain ⟨Lz72, X64, N64⟩ : ∃ Lz, Stand p l e rom_1 s m #[(.ref a1), (.int (4 : Int32)), (.ref o2), (.int (0 : Int32))] below meth c T64 Lz 3 9 ∧ Fr n0 Lz := ⟨_, X64, N64⟩
  show OG _ _ _ _ _ _ _ (T64.setTop (mkF m 100 #[.val (.ref a1), .val (.int (4 : Int32)), .val (.ref o2), .val (.int (0 : Int32)), .val (.ref b4), .val (.ref b57), .unset, .unset, .unset, .unset] [(.ref b1_64)]))
  have s73 : ∀ tz, Steps p.tables e below (T64.setTop (mkF m 168 #[.val (.ref a1), .val (.int (4 : Int32)), .val (.ref o2), .val (.int (0 : Int32)), .val (.ref b4), .val (.ref b57), .val (.ref b1_64), .val (.int (0 : Int32)), .unset, .unset] [(.int (5 : Int32)), (.ref a1)])) tz → Steps p.tables e below (T64.setTop (mkF m 100 #[.val (.ref a1), .val (.int (4 : Int32)), .val (.ref o2), .val (.int (0 : Int32)), .val (.ref b4), .val (.ref b57), .unset, .unset, .unset, .unset] [(.ref b1_64)])) tz := by
    intro tz kz
    refine XS.astore X64.here hx rfl (hb hby d1_100) rfl rfl (l' := #[.val (.ref a1), .val (.int (4 : Int32)), .val (.ref o2), .val (.int (0 : Int32)), .val (.ref b4), .val (.ref b57), .val (.ref b1_64), .unset, .unset, .unset]) rfl ?_
    refine XS.iconst X64.here hx rfl (hb hby d1_102) ?_
    refine XS.istore X64.here hx rfl (hb hby d1_103) rfl (l' := #[.val (.ref a1), .val (.int (4 : Int32)), .val (.ref o2), .val (.int (0 : Int32)), .val (.ref b4), .val (.ref b57), .val (.ref b1_64), .val (.int (0 : Int32)), .unset, .unset]) rfl ?_
    refine XS.iload X64.here hx rfl (hb hby d1_105) rfl ?_
    refine XS.iloadN X64.here hx rfl (hb hby d1_107) rfl ?_
    show Steps p.tables e below (T64.setTop (mkF m 108 #[.val (.ref a1), .val (.int (4 : Int32)), .val (.ref o2), .val (.int (0 : Int32)), .val (.ref b4), .val (.ref b57), .val (.ref b1_64), .val (.int (0 : Int32)), .unset, .unset] [(.int (0 : Int32)), (.int (0 : Int32))])) _
    refine XS.icmpYes X64.here hx rfl (pc0 := 108) (pc' := 164) rfl (hb hby d1_108) rfl (flt (by decide)).2.1 (by decide) (by decide) ?_
    refine XS.aloadN X64.here hx rfl (hb hby d1_164) rfl rfl ?_
    refine XS.iloadN X64.here hx rfl (hb hby d1_165) rfl ?_
    refine XS.iconst X64.here hx rfl (hb hby d1_166) ?_
    refine XS.iadd X64.here hx rfl (hb hby d1_167) rfl ?_
    exact kz
  refine OG.step s73 ?_
  obtain ⟨T74, h74, k74, X74, e74, E74, A74, Ex74, st74⟩ := newPE X64 hx hZ (hw _ (List.mem_of_getElem? (i := 10) rfl)) rfl (g := (mkF m 168 #[.val (.ref a1), .val (.int (4 : Int32)), .val (.ref o2), .val (.int (0 : Int32)), .val (.ref b4), .val (.ref b57), .val (.ref b1_64), .val (.int (0 : Int32)), .unset, .unset] [(.int (5 : Int32)), (.ref a1)])) rfl (hb hby d1_168) rfl (by decide) (cap := 5) (by decide) (by decide) (by decide) (by decide) (ad := "[I") (by decide)
  obtain ⟨b74, g74⟩ : ∃ z, z = T64.heap.size := ⟨_, rfl⟩
  rw [← g74] at A74 Ex74 st74
  have sz74 : h0.size ≤ b74 := Nat.le_trans K64.1 (Nat.le_of_eq g74.symm)
  have ge74 : n0 ≤ b74 := Nat.le_trans Z0 sz74
  have ne74_a1 : a1 ≠ b74 := Nat.ne_of_lt (Nat.lt_of_lt_of_le f65.lt (Nat.le_of_eq g74.symm))
  have ne74_b4 : b4 ≠ b74 := Nat.ne_of_lt (Nat.lt_of_lt_of_le f68.lt (Nat.le_of_eq g74.symm))
  have ne74_b57 : b57 ≠ b74 := Nat.ne_of_lt (Nat.lt_of_lt_of_le f70.lt (Nat.le_of_eq g74.symm))
  refine OG.step st74 ?_
  have f75 := f65.ext E74
  have f76 := f66.ext E74
  have f77 := f67.ext E74
  have f78 := f68.ext E74
  have f79 := f69.ext E74
  have f80 := f70.ext E74
  have f81 := f71.ext E74
  have V74 : Arv Z h74 b74 k74 .int (5 : Int32) [(.int (0 : Int32)), (.int (0 : Int32)), (.int (0 : Int32)), (.int (0 : Int32)), (.int (0 : Int32))] (.int (0 : Int32)) := (Arv.new A74 (by decide)).pad (pad_rep [] (.int (0 : Int32)) 5)
  have K74 := K64.ext E74
  show OG _ _ _ _ _ _ _ (T74.setTop (mkF m 170 #[.val (.ref a1), .val (.int (4 : Int32)), .val (.ref o2), .val (.int (0 : Int32)), .val (.ref b4), .val (.ref b57), .val (.ref b1_64), .val (.int (0 : Int32)), .unset, .unset] [(.ref b74), (.ref a1)]))
  obtain ⟨T82, h82, X82, e82, W82, st82⟩ := putF X74 hx hZ hown (host := "") (Or.inl (hw _ (List.mem_of_getElem? (i := 23) rfl))) Via.refl e74 f76 f75 (Or.inr ⟨(hw _ (List.mem_of_getElem? (i := 24) rfl)), rfl, hnm⟩) (hw _ (List.mem_of_getElem? (i := 1) rfl)) (ty := (.array .int)) (by decide) rfl rfl (g := (mkF m 170 #[.val (.ref a1), .val (.int (4 : Int32)), .val (.ref o2), .val (.int (0 : Int32)), .val (.ref b4), .val (.ref b57), .val (.ref b1_64), .val (.int (0 : Int32)), .unset, .unset] [(.ref b74), (.ref a1)])) rfl rfl (hb hby d1_170)
  refine OG.step st82 ?_
  have fw82 := f76.same W82
  have f83 := f75.wr W82
  have f84 := f77.other W82 (Or.inr (slot_ne (Or.inr (hw _ (List.mem_of_getElem? (i := 38) rfl))) (Or.inr (hw _ (List.mem_of_getElem? (i := 24) rfl))) (by decide) (t := (.array .int)) (t' := (.array .int)) (by decide) (by decide)))
  have f85 := f78.wr W82
  have f86 := f79.other W82 (Ne.symm ne4_a1)
  have f87 := f80.wr W82
  have f88 := f81.other W82 (Ne.symm ne57_a1)
  have f89 := Ex74.wr W82
  have f90 := V74.other W82 (Ne.symm ne74_a1)
  have K82 := K74.wr W82 (Or.inl (List.mem_of_getElem? (i := 0) rfl))
  have N82 := Fr.snoc X82 N64 g_a1
  obtain ⟨Lz91, X82, N82⟩ : ∃ Lz, Stand p l e rom_1 s m #[(.ref a1), (.int (4 : Int32)), (.ref o2), (.int (0 : Int32))] below meth c T82 Lz 4 14 ∧ Fr n0 Lz := ⟨_, X82, N82⟩
  show OG _ _ _ _ _ _ _ (T82.setTop (mkF m 173 #[.val (.ref a1), .val (.int (4 : Int32)), .val (.ref o2), .val (.int (0 : Int32)), .val (.ref b4), .val (.ref b57), .val (.ref b1_64), .val (.int (0 : Int32)), .unset, .unset] []))
  have s92 : ∀ tz, Steps p.tables e below (T82.setTop (mkF m 186 #[.val (.ref a1), .val (.int (4 : Int32)), .val (.ref o2), .val (.int (0 : Int32)), .val (.ref b4), .val (.ref b57), .val (.ref b1_64), .val (.int (0 : Int32)), .val (.int (0 : Int32)), .unset] [(.ref a1)])) tz → Steps p.tables e below (T82.setTop (mkF m 173 #[.val (.ref a1), .val (.int (4 : Int32)), .val (.ref o2), .val (.int (0 : Int32)), .val (.ref b4), .val (.ref b57), .val (.ref b1_64), .val (.int (0 : Int32)), .unset, .unset] [])) tz := by
    intro tz kz
    refine XS.iconst X82.here hx rfl (hb hby d1_173) ?_
    refine XS.istore X82.here hx rfl (hb hby d1_174) rfl (l' := #[.val (.ref a1), .val (.int (4 : Int32)), .val (.ref o2), .val (.int (0 : Int32)), .val (.ref b4), .val (.ref b57), .val (.ref b1_64), .val (.int (0 : Int32)), .unset, .unset]) rfl ?_
    refine XS.iconst X82.here hx rfl (hb hby d1_176) ?_
    refine XS.istore X82.here hx rfl (hb hby d1_177) rfl (l' := #[.val (.ref a1), .val (.int (4 : Int32)), .val (.ref o2), .val (.int (0 : Int32)), .val (.ref b4), .val (.ref b57), .val (.ref b1_64), .val (.int (0 : Int32)), .val (.int (0 : Int32)), .unset]) rfl ?_
    refine XS.iload X82.here hx rfl (hb hby d1_179) rfl ?_
    show Steps p.tables e below (T82.setTop (mkF m 181 #[.val (.ref a1), .val (.int (4 : Int32)), .val (.ref o2), .val (.int (0 : Int32)), .val (.ref b4), .val (.ref b57), .val (.ref b1_64), .val (.int (0 : Int32)), .val (.int (0 : Int32)), .unset] [(.int (0 : Int32))])) _
    refine XS.iloadN X82.here hx rfl (hb hby d1_181) rfl ?_
    refine XS.icmpNo X82.here hx rfl (hb hby d1_182) rfl (tlt (by decide)).2.1 ?_
    refine XS.aloadN X82.here hx rfl (hb hby d1_185) rfl rfl ?_
    exact kz
  refine OG.step s92 ?_
  obtain ⟨T93, X93, e93, st93⟩ := getF X82 hx hZ hown (host := "") (Or.inl (hw _ (List.mem_of_getElem? (i := 23) rfl))) Via.refl e82 fw82 (g := (mkF m 186 #[.val (.ref a1), .val (.int (4 : Int32)), .val (.ref o2), .val (.int (0 : Int32)), .val (.ref b4), .val (.ref b57), .val (.ref b1_64), .val (.int (0 : Int32)), .val (.int (0 : Int32)), .unset] [(.ref a1)])) rfl rfl (hb hby d1_186)
  refine OG.step st93 ?_
  show OG _ _ _ _ _ _ _ (T93.setTop (mkF m 189 #[.val (.ref a1), .val (.int (4 : Int32)), .val (.ref o2), .val (.int (0 : Int32)), .val (.ref b4), .val (.ref b57), .val (.ref b1_64), .val (.int (0 : Int32)), .val (.int (0 : Int32)), .unset] [(.ref b74)]))
  have s94 : ∀ tz, Steps p.tables e below (T93.setTop (mkF m 193 #[.val (.ref a1), .val (.int (4 : Int32)), .val (.ref o2), .val (.int (0 : Int32)), .val (.ref b4), .val (.ref b57), .val (.ref b1_64), .val (.int (0 : Int32)), .val (.int (0 : Int32)), .unset] [(.int (0 : Int32)), (.int (0 : Int32)), (.ref b74)])) tz → Steps p.tables e below (T93.setTop (mkF m 189 #[.val (.ref a1), .val (.int (4 : Int32)), .val (.ref o2), .val (.int (0 : Int32)), .val (.ref b4), .val (.ref b57), .val (.ref b1_64), .val (.int (0 : Int32)), .val (.int (0 : Int32)), .unset] [(.ref b74)])) tz := by
    intro tz kz
    refine XS.iload X93.here hx rfl (hb hby d1_189) rfl ?_
    refine XS.iload X93.here hx rfl (hb hby d1_191) rfl ?_
    exact kz
  refine OG.step s94 ?_
  have av95 := f90
  obtain ⟨cl95, Ar95, qa_95, Sa_95, Nn_95, Ha_95, Ga_95⟩ := av95
  have hin95 : ¬ ((0 : Int32) < 0 ∨ cl95.slots.size ≤ ((0 : Int32)).toNatClampNeg) := inb_of Sa_95 ⟨(by decide), (by decide)⟩
  obtain ⟨T96, h96, X96, e96, W96, st96⟩ := stI X93 hx hZ e93 Ar95 (j := (0 : Int32)) hin95 (g := (mkF m 193 #[.val (.ref a1), .val (.int (4 : Int32)), .val (.ref o2), .val (.int (0 : Int32)), .val (.ref b4), .val (.ref b57), .val (.ref b1_64), .val (.int (0 : Int32)), .val (.int (0 : Int32)), .unset] [(.int (0 : Int32)), (.int (0 : Int32)), (.ref b74)])) rfl rfl (hb hby d1_193)
  refine OG.step st96 ?_
  have Va96 := Arv.set Ar95 qa_95 Sa_95 Nn_95 Ha_95 Ga_95 rfl W96 (0) (by decide) (Nat.le_of_ble_eq_true rfl)
  have V96 : Arv Z h96 b74 k74 .int (5 : Int32) [(.int (0 : Int32)), (.int (0 : Int32)), (.int (0 : Int32)), (.int (0 : Int32)), (.int (0 : Int32))] (.int (0 : Int32)) := Va96
  have f97 := f83.wr W96
  have f98 := f84.other W96 (Or.inl ne74_a1)
  have f99 := f85.wr W96
  have f100 := f86.other W96 ne74_b4
  have f101 := f87.wr W96
  have f102 := f88.other W96 ne74_b57
  have f103 := f89.wr W96
  have f104 := fw82.other W96 (Or.inl ne74_a1)
  have K96 := K82.wr W96 (Or.inr sz74)
  have N96 := Fr.snoc X96 N82 ge74
  obtain ⟨Lz105, X96, N96⟩ : ∃ Lz, Stand p l e rom_1 s m #[(.ref a1), (.int (4 : Int32)), (.ref o2), (.int (0 : Int32))] below meth c T96 Lz 4 14 ∧ Fr n0 Lz := ⟨_, X96, N96⟩
  show OG _ _ _ _ _ _ _ (T96.setTop (mkF m 194 #[.val (.ref a1), .val (.int (4 : Int32)), .val (.ref o2), .val (.int (0 : Int32)), .val (.ref b4), .val (.ref b57), .val (.ref b1_64), .val (.int (0 : Int32)), .val (.int (0 : Int32)), .unset] []))
  have s106 : ∀ tz, Steps p.tables e below (T96.setTop (mkF m 200 #[.val (.ref a1), .val (.int (4 : Int32)), .val (.ref o2), .val (.int (0 : Int32)), .val (.ref b4), .val (.ref b57), .val (.ref b1_64), .val (.int (0 : Int32)), .val (.int (0 : Int32)), .unset] [(.int (0 : Int32)), (.ref b4), (.ref b57)])) tz → Steps p.tables e below (T96.setTop (mkF m 194 #[.val (.ref a1), .val (.int (4 : Int32)), .val (.ref o2), .val (.int (0 : Int32)), .val (.ref b4), .val (.ref b57), .val (.ref b1_64), .val (.int (0 : Int32)), .val (.int (0 : Int32)), .unset] [])) tz := by
    intro tz kz
    refine XS.aload X96.here hx rfl (hb hby d1_194) rfl rfl ?_
    refine XS.aload X96.here hx rfl (hb hby d1_196) rfl rfl ?_
    refine XS.iload X96.here hx rfl (hb hby d1_198) rfl ?_
    exact kz
  refine OG.step s106 ?_
  have av107 := f100
  obtain ⟨cl107, Ar107, qa_107, Sa_107, Nn_107, Ha_107, Ga_107⟩ := av107
  have hin107 : ¬ ((0 : Int32) < 0 ∨ cl107.slots.size ≤ ((0 : Int32)).toNatClampNeg) := inb_of Sa_107 ⟨(by decide), (by decide)⟩
  have hat107 : cl107.slots[((0 : Int32)).toNatClampNeg]? = some (.int (0 : Int32)) := Ha_107.at hin107 rfl
  refine OG.step (X96.iaload hx (j := (0 : Int32)) (v := (.int (0 : Int32))) (by rw [e96]; exact Ar107.1) (State.isArrayOf_alike hZ.alike Ar107.2.1) Ar107.2.2 hin107 hat107 (g := (mkF m 200 #[.val (.ref a1), .val (.int (4 : Int32)), .val (.ref o2), .val (.int (0 : Int32)), .val (.ref b4), .val (.ref b57), .val (.ref b1_64), .val (.int (0 : Int32)), .val (.int (0 : Int32)), .unset] [(.int (0 : Int32)), (.ref b4), (.ref b57)])) rfl rfl (hb hby d1_200)) ?_
  show OG _ _ _ _ _ _ _ (T96.setTop (mkF m 201 #[.val (.ref a1), .val (.int (4 : Int32)), .val (.ref o2), .val (.int (0 : Int32)), .val (.ref b4), .val (.ref b57), .val (.ref b1_64), .val (.int (0 : Int32)), .val (.int (0 : Int32)), .unset] [(.int (0 : Int32)), (.ref b57)]))
  have s108 : ∀ tz, Steps p.tables e below (T96.setTop (mkF m 207 #[.val (.ref a1), .val (.int (4 : Int32)), .val (.ref o2), .val (.int (0 : Int32)), .val (.ref b4), .val (.ref b57), .val (.ref b1_64), .val (.int (0 : Int32)), .val (.int (0 : Int32)), .unset] [(.int (1 : Int32)), (.ref b4), (.int (0 : Int32)), (.ref b57)])) tz → Steps p.tables e below (T96.setTop (mkF m 201 #[.val (.ref a1), .val (.int (4 : Int32)), .val (.ref o2), .val (.int (0 : Int32)), .val (.ref b4), .val (.ref b57), .val (.ref b1_64), .val (.int (0 : Int32)), .val (.int (0 : Int32)), .unset] [(.int (0 : Int32)), (.ref b57)])) tz := by
    intro tz kz
    refine XS.aload X96.here hx rfl (hb hby d1_201) rfl rfl ?_
    refine XS.iload X96.here hx rfl (hb hby d1_203) rfl ?_
    refine XS.iconst X96.here hx rfl (hb hby d1_205) ?_
    refine XS.iadd X96.here hx rfl (hb hby d1_206) rfl ?_
    exact kz
  refine OG.step s108 ?_
  have av109 := f100
  obtain ⟨cl109, Ar109, qa_109, Sa_109, Nn_109, Ha_109, Ga_109⟩ := av109
  have hin109 : ¬ ((1 : Int32) < 0 ∨ cl109.slots.size ≤ ((1 : Int32)).toNatClampNeg) := inb_of Sa_109 ⟨(by decide), (by decide)⟩
  have hat109 : cl109.slots[((1 : Int32)).toNatClampNeg]? = some (.int (0 : Int32)) := Ha_109.at hin109 rfl
  refine OG.step (X96.iaload hx (j := (1 : Int32)) (v := (.int (0 : Int32))) (by rw [e96]; exact Ar109.1) (State.isArrayOf_alike hZ.alike Ar109.2.1) Ar109.2.2 hin109 hat109 (g := (mkF m 207 #[.val (.ref a1), .val (.int (4 : Int32)), .val (.ref o2), .val (.int (0 : Int32)), .val (.ref b4), .val (.ref b57), .val (.ref b1_64), .val (.int (0 : Int32)), .val (.int (0 : Int32)), .unset] [(.int (1 : Int32)), (.ref b4), (.int (0 : Int32)), (.ref b57)])) rfl rfl (hb hby d1_207)) ?_
  show OG _ _ _ _ _ _ _ (T96.setTop (mkF m 208 #[.val (.ref a1), .val (.int (4 : Int32)), .val (.ref o2), .val (.int (0 : Int32)), .val (.ref b4), .val (.ref b57), .val (.ref b1_64), .val (.int (0 : Int32)), .val (.int (0 : Int32)), .unset] [(.int (0 : Int32)), (.int (0 : Int32)), (.ref b57)]))
  have s110 : ∀ tz, Steps p.tables e below (T96.setTop (mkF m 210 #[.val (.ref a1), .val (.int (4 : Int32)), .val (.ref o2), .val (.int (0 : Int32)), .val (.ref b4), .val (.ref b57), .val (.ref b1_64), .val (.int (0 : Int32)), .val (.int (0 : Int32)), .unset] [(.int (0 : Int32)), (.int (0 : Int32)), (.int (0 : Int32)), (.ref b57)])) tz → Steps p.tables e below (T96.setTop (mkF m 208 #[.val (.ref a1), .val (.int (4 : Int32)), .val (.ref o2), .val (.int (0 : Int32)), .val (.ref b4), .val (.ref b57), .val (.ref b1_64), .val (.int (0 : Int32)), .val (.int (0 : Int32)), .unset] [(.int (0 : Int32)), (.int (0 : Int32)), (.ref b57)])) tz := by
    intro tz kz
    refine XS.iload X96.here hx rfl (hb hby d1_208) rfl ?_
    exact kz
  refine OG.step s110 ?_
  obtain ⟨_, _, ⟨T111, L111, k111, n111⟩, -, X111, ⟨Lc111, hQ111, l111, y111, z111⟩, st111⟩ := Jvm.LawKit.callS X96 hx (y := (⟨"com/example/tidegraph/tidegraph/amd64/InterferenceGraph", "keep", "([IIII)I"⟩ : MethodName)) hown (mvT hZ (hw _ (List.mem_of_getElem? (i := 25) rfl))) (mvT hZ (hw _ (List.mem_of_getElem? (i := 26) rfl))) (mvT hZ (hw _ (List.mem_of_getElem? (i := 2) rfl))) (mvT hZ (hw _ (List.mem_of_getElem? (i := 27) rfl))) (by decide) (backOf (W := 0) (rm5 l Z a0 hw [] b57 h96 n0 (Nat.le_trans Z0 K96.1)) hZ (hw _ (List.mem_of_getElem? (i := 27) rfl)) (hw _ (List.mem_of_getElem? (i := 2) rfl)) (by decide) (by decide)) (g := (mkF m 210 #[.val (.ref a1), .val (.int (4 : Int32)), .val (.ref o2), .val (.int (0 : Int32)), .val (.ref b4), .val (.ref b57), .val (.ref b1_64), .val (.int (0 : Int32)), .val (.int (0 : Int32)), .unset] [(.int (0 : Int32)), (.int (0 : Int32)), (.int (0 : Int32)), (.ref b57)])) rfl (by rw [hml]; rfl) (argsL := [(.ref b57), (.int (0 : Int32)), (.int (0 : Int32)), (.int (0 : Int32))]) (rest := []) (lenOf pd___IIII_I rfl) rfl (by show 2 * 0 + _ ≤ _; exact Nat.le_of_eq rfl) (hb hby d1_210) (fun _ _ => ⟨rfl, e96, (by decide : 4 + 0 ≤ _), (by decide : 14 + 0 ≤ _)⟩)
  dsimp only [Pt.U, Pt.locs, Pt.cells, Pt.slots] at X111 l111 y111 z111 st111 hQ111
  subst l111 y111 z111
  obtain ⟨rfl, N111q, e111⟩ := hQ111
  have N111 := Fr.app N96 N111q
  refine OG.step st111 ?_
  obtain ⟨Lz112, X111, N111⟩ : ∃ Lz, Stand p l e rom_1 s m #[(.ref a1), (.int (4 : Int32)), (.ref o2), (.int (0 : Int32))] below meth c T111 Lz 4 14 ∧ Fr n0 Lz := ⟨_, X111, N111⟩
  show OG _ _ _ _ _ _ _ (T111.setTop (mkF m 213 #[.val (.ref a1), .val (.int (4 : Int32)), .val (.ref o2), .val (.int (0 : Int32)), .val (.ref b4), .val (.ref b57), .val (.ref b1_64), .val (.int (0 : Int32)), .val (.int (0 : Int32)), .unset] [(.int (0 : Int32))]))
  have s113 : ∀ tz, Steps p.tables e below (T111.setTop (mkF m 186 #[.val (.ref a1), .val (.int (4 : Int32)), .val (.ref o2), .val (.int (0 : Int32)), .val (.ref b4), .val (.ref b57), .val (.ref b1_64), .val (.int (0 : Int32)), .val (.int (1 : Int32)), .unset] [(.ref a1)])) tz → Steps p.tables e below (T111.setTop (mkF m 213 #[.val (.ref a1), .val (.int (4 : Int32)), .val (.ref o2), .val (.int (0 : Int32)), .val (.ref b4), .val (.ref b57), .val (.ref b1_64), .val (.int (0 : Int32)), .val (.int (0 : Int32)), .unset] [(.int (0 : Int32))])) tz := by
    intro tz kz
    refine XS.istore X111.here hx rfl (hb hby d1_213) rfl (l' := #[.val (.ref a1), .val (.int (4 : Int32)), .val (.ref o2), .val (.int (0 : Int32)), .val (.ref b4), .val (.ref b57), .val (.ref b1_64), .val (.int (0 : Int32)), .val (.int (0 : Int32)), .unset]) rfl ?_
    refine XS.iinc X111.here hx rfl (hb hby d1_215) rfl (l' := #[.val (.ref a1), .val (.int (4 : Int32)), .val (.ref o2), .val (.int (0 : Int32)), .val (.ref b4), .val (.ref b57), .val (.ref b1_64), .val (.int (0 : Int32)), .val (.int (1 : Int32)), .unset]) rfl ?_
    refine XS.goto X111.here hx rfl (pc0 := 218) (pc' := 179) rfl (hb hby d1_218) (by decide) (by decide) ?_
    refine XS.iload X111.here hx rfl (hb hby d1_179) rfl ?_
    refine XS.iloadN X111.here hx rfl (hb hby d1_181) rfl ?_
    show Steps p.tables e below (T111.setTop (mkF m 182 #[.val (.ref a1), .val (.int (4 : Int32)), .val (.ref o2), .val (.int (0 : Int32)), .val (.ref b4), .val (.ref b57), .val (.ref b1_64), .val (.int (0 : Int32)), .val (.int (1 : Int32)), .unset] [(.int (4 : Int32)), (.int (1 : Int32))])) _
    refine XS.icmpNo X111.here hx rfl (hb hby d1_182) rfl (tlt (by decide)).2.1 ?_
    refine XS.aloadN X111.here hx rfl (hb hby d1_185) rfl rfl ?_
    exact kz
  refine OG.step s113 ?_
  obtain ⟨T114, X114, e114, st114⟩ := getF X111 hx hZ hown (host := "") (Or.inl (hw _ (List.mem_of_getElem? (i := 23) rfl))) Via.refl e111 f104 (g := (mkF m 186 #[.val (.ref a1), .val (.int (4 : Int32)), .val (.ref o2), .val (.int (0 : Int32)), .val (.ref b4), .val (.ref b57), .val (.ref b1_64), .val (.int (0 : Int32)), .val (.int (1 : Int32)), .unset] [(.ref a1)])) rfl rfl (hb hby d1_186)
  refine OG.step st114 ?_
  show OG _ _ _ _ _ _ _ (T114.setTop (mkF m 189 #[.val (.ref a1), .val (.int (4 : Int32)), .val (.ref o2), .val (.int (0 : Int32)), .val (.ref b4), .val (.ref b57), .val (.ref b1_64), .val (.int (0 : Int32)), .val (.int (1 : Int32)), .unset] [(.ref b74)]))
  have s115 : ∀ tz, Steps p.tables e below (T114.setTop (mkF m 193 #[.val (.ref a1), .val (.int (4 : Int32)), .val (.ref o2), .val (.int (0 : Int32)), .val (.ref b4), .val (.ref b57), .val (.ref b1_64), .val (.int (0 : Int32)), .val (.int (1 : Int32)), .unset] [(.int (0 : Int32)), (.int (1 : Int32)), (.ref b74)])) tz → Steps p.tables e below (T114.setTop (mkF m 189 #[.val (.ref a1), .val (.int (4 : Int32)), .val (.ref o2), .val (.int (0 : Int32)), .val (.ref b4), .val (.ref b57), .val (.ref b1_64), .val (.int (0 : Int32)), .val (.int (1 : Int32)), .unset] [(.ref b74)])) tz := by
    intro tz kz
    refine XS.iload X114.here hx rfl (hb hby d1_189) rfl ?_
    refine XS.iload X114.here hx rfl (hb hby d1_191) rfl ?_
    exact kz
  refine OG.step s115 ?_
  have av116 := V96
  obtain ⟨cl116, Ar116, qa_116, Sa_116, Nn_116, Ha_116, Ga_116⟩ := av116
  have hin116 : ¬ ((1 : Int32) < 0 ∨ cl116.slots.size ≤ ((1 : Int32)).toNatClampNeg) := inb_of Sa_116 ⟨(by decide), (by decide)⟩
  obtain ⟨T117, h117, X117, e117, W117, st117⟩ := stI X114 hx hZ e114 Ar116 (j := (1 : Int32)) hin116 (g := (mkF m 193 #[.val (.ref a1), .val (.int (4 : Int32)), .val (.ref o2), .val (.int (0 : Int32)), .val (.ref b4), .val (.ref b57), .val (.ref b1_64), .val (.int (0 : Int32)), .val (.int (1 : Int32)), .unset] [(.int (0 : Int32)), (.int (1 : Int32)), (.ref b74)])) rfl rfl (hb hby d1_193)
  refine OG.step st117 ?_
  have Va117 := Arv.set Ar116 qa_116 Sa_116 Nn_116 Ha_116 Ga_116 rfl W117 (1) (by decide) (Nat.le_of_ble_eq_true rfl)
  have V117 : Arv Z h117 b74 k74 .int (5 : Int32) [(.int (0 : Int32)), (.int (0 : Int32)), (.int (0 : Int32)), (.int (0 : Int32)), (.int (0 : Int32))] (.int (0 : Int32)) := Va117
  have f118 := f97.wr W117
  have f119 := f98.other W117 (Or.inl ne74_a1)
  have f120 := f99.wr W117
  have f121 := f100.other W117 ne74_b4
  have f122 := f101.wr W117
  have f123 := f102.other W117 ne74_b57
  have f124 := f103.wr W117
  have f125 := f104.other W117 (Or.inl ne74_a1)
  have K117 := K96.wr W117 (Or.inr sz74)
  have N117 := Fr.snoc X117 N111 ge74
  obtain ⟨Lz126, X117, N117⟩ : ∃ Lz, Stand p l e rom_1 s m #[(.ref a1), (.int (4 : Int32)), (.ref o2), (.int (0 : Int32))] below meth c T117 Lz 4 14 ∧ Fr n0 Lz := ⟨_, X117, N117⟩
  show OG _ _ _ _ _ _ _ (T117.setTop (mkF m 194 #[.val (.ref a1), .val (.int (4 : Int32)), .val (.ref o2), .val (.int (0 : Int32)), .val (.ref b4), .val (.ref b57), .val (.ref b1_64), .val (.int (0 : Int32)), .val (.int (1 : Int32)), .unset] []))
  have s127 : ∀ tz, Steps p.tables e below (T117.setTop (mkF m 200 #[.val (.ref a1), .val (.int (4 : Int32)), .val (.ref o2), .val (.int (0 : Int32)), .val (.ref b4), .val (.ref b57), .val (.ref b1_64), .val (.int (0 : Int32)), .val (.int (1 : Int32)), .unset] [(.int (1 : Int32)), (.ref b4), (.ref b57)])) tz → Steps p.tables e below (T117.setTop (mkF m 194 #[.val (.ref a1), .val (.int (4 : Int32)), .val (.ref o2), .val (.int (0 : Int32)), .val (.ref b4), .val (.ref b57), .val (.ref b1_64), .val (.int (0 : Int32)), .val (.int (1 : Int32)), .unset] [])) tz := by
    intro tz kz
    refine XS.aload X117.here hx rfl (hb hby d1_194) rfl rfl ?_
    refine XS.aload X117.here hx rfl (hb hby d1_196) rfl rfl ?_
    refine XS.iload X117.here hx rfl (hb hby d1_198) rfl ?_
    exact kz
  refine OG.step s127 ?_
  have av128 := f121
  obtain ⟨cl128, Ar128, qa_128, Sa_128, Nn_128, Ha_128, Ga_128⟩ := av128
  have hin128 : ¬ ((1 : Int32) < 0 ∨ cl128.slots.size ≤ ((1 : Int32)).toNatClampNeg) := inb_of Sa_128 ⟨(by decide), (by decide)⟩
  have hat128 : cl128.slots[((1 : Int32)).toNatClampNeg]? = some (.int (0 : Int32)) := Ha_128.at hin128 rfl
  refine OG.step (X117.iaload hx (j := (1 : Int32)) (v := (.int (0 : Int32))) (by rw [e117]; exact Ar128.1) (State.isArrayOf_alike hZ.alike Ar128.2.1) Ar128.2.2 hin128 hat128 (g := (mkF m 200 #[.val (.ref a1), .val (.int (4 : Int32)), .val (.ref o2), .val (.int (0 : Int32)), .val (.ref b4), .val (.ref b57), .val (.ref b1_64), .val (.int (0 : Int32)), .val (.int (1 : Int32)), .unset] [(.int (1 : Int32)), (.ref b4), (.ref b57)])) rfl rfl (hb hby d1_200)) ?_
  show OG _ _ _ _ _ _ _ (T117.setTop (mkF m 201 #[.val (.ref a1), .val (.int (4 : Int32)), .val (.ref o2), .val (.int (0 : Int32)), .val (.ref b4), .val (.ref b57), .val (.ref b1_64), .val (.int (0 : Int32)), .val (.int (1 : Int32)), .unset] [(.int (0 : Int32)), (.ref b57)]))
  have s129 : ∀ tz, Steps p.tables e below (T117.setTop (mkF m 207 #[.val (.ref a1), .val (.int (4 : Int32)), .val (.ref o2), .val (.int (0 : Int32)), .val (.ref b4), .val (.ref b57), .val (.ref b1_64), .val (.int (0 : Int32)), .val (.int (1 : Int32)), .unset] [(.int (2 : Int32)), (.ref b4), (.int (0 : Int32)), (.ref b57)])) tz → Steps p.tables e below (T117.setTop (mkF m 201 #[.val (.ref a1), .val (.int (4 : Int32)), .val (.ref o2), .val (.int (0 : Int32)), .val (.ref b4), .val (.ref b57), .val (.ref b1_64), .val (.int (0 : Int32)), .val (.int (1 : Int32)), .unset] [(.int (0 : Int32)), (.ref b57)])) tz := by
    intro tz kz
    refine XS.aload X117.here hx rfl (hb hby d1_201) rfl rfl ?_
    refine XS.iload X117.here hx rfl (hb hby d1_203) rfl ?_
    refine XS.iconst X117.here hx rfl (hb hby d1_205) ?_
    refine XS.iadd X117.here hx rfl (hb hby d1_206) rfl ?_
    exact kz
  refine OG.step s129 ?_
  have av130 := f121
  obtain ⟨cl130, Ar130, qa_130, Sa_130, Nn_130, Ha_130, Ga_130⟩ := av130
  have hin130 : ¬ ((2 : Int32) < 0 ∨ cl130.slots.size ≤ ((2 : Int32)).toNatClampNeg) := inb_of Sa_130 ⟨(by decide), (by decide)⟩
  have hat130 : cl130.slots[((2 : Int32)).toNatClampNeg]? = some (.int (0 : Int32)) := Ha_130.at hin130 rfl
  refine OG.step (X117.iaload hx (j := (2 : Int32)) (v := (.int (0 : Int32))) (by rw [e117]; exact Ar130.1) (State.isArrayOf_alike hZ.alike Ar130.2.1) Ar130.2.2 hin130 hat130 (g := (mkF m 207 #[.val (.ref a1), .val (.int (4 : Int32)), .val (.ref o2), .val (.int (0 : Int32)), .val (.ref b4), .val (.ref b57), .val (.ref b1_64), .val (.int (0 : Int32)), .val (.int (1 : Int32)), .unset] [(.int (2 : Int32)), (.ref b4), (.int (0 : Int32)), (.ref b57)])) rfl rfl (hb hby d1_207)) ?_
  show OG _ _ _ _ _ _ _ (T117.setTop (mkF m 208 #[.val (.ref a1), .val (.int (4 : Int32)), .val (.ref o2), .val (.int (0 : Int32)), .val (.ref b4), .val (.ref b57), .val (.ref b1_64), .val (.int (0 : Int32)), .val (.int (1 : Int32)), .unset] [(.int (0 : Int32)), (.int (0 : Int32)), (.ref b57)]))
  have s131 : ∀ tz, Steps p.tables e below (T117.setTop (mkF m 210 #[.val (.ref a1), .val (.int (4 : Int32)), .val (.ref o2), .val (.int (0 : Int32)), .val (.ref b4), .val (.ref b57), .val (.ref b1_64), .val (.int (0 : Int32)), .val (.int (1 : Int32)), .unset] [(.int (0 : Int32)), (.int (0 : Int32)), (.int (0 : Int32)), (.ref b57)])) tz → Steps p.tables e below (T117.setTop (mkF m 208 #[.val (.ref a1), .val (.int (4 : Int32)), .val (.ref o2), .val (.int (0 : Int32)), .val (.ref b4), .val (.ref b57), .val (.ref b1_64), .val (.int (0 : Int32)), .val (.int (1 : Int32)), .unset] [(.int (0 : Int32)), (.int (0 : Int32)), (.ref b57)])) tz := by
    intro tz kz
    refine XS.iload X117.here hx rfl (hb hby d1_208) rfl ?_
    exact kz
  refine OG.step s131 ?_
  obtain ⟨_, _, ⟨T132, L132, k132, n132⟩, -, X132, ⟨Lc132, hQ132, l132, y132, z132⟩, st132⟩ := Jvm.LawKit.callS X117 hx (y := (⟨"com/example/tidegraph/tidegraph/amd64/InterferenceGraph", "keep", "([IIII)I"⟩ : MethodName)) hown (mvT hZ (hw _ (List.mem_of_getElem? (i := 25) rfl))) (mvT hZ (hw _ (List.mem_of_getElem? (i := 26) rfl))) (mvT hZ (hw _ (List.mem_of_getElem? (i := 2) rfl))) (mvT hZ (hw _ (List.mem_of_getElem? (i := 27) rfl))) (by decide) (backOf (W := 0) (rm5 l Z a0 hw [] b57 h117 n0 (Nat.le_trans Z0 K117.1)) hZ (hw _ (List.mem_of_getElem? (i := 27) rfl)) (hw _ (List.mem_of_getElem? (i := 2) rfl)) (by decide) (by decide)) (g := (mkF m 210 #[.val (.ref a1), .val (.int (4 : Int32)), .val (.ref o2), .val (.int (0 : Int32)), .val (.ref b4), .val (.ref b57), .val (.ref b1_64), .val (.int (0 : Int32)), .val (.int (1 : Int32)), .unset] [(.int (0 : Int32)), (.int (0 : Int32)), (.int (0 : Int32)), (.ref b57)])) rfl (by rw [hml]; rfl) (argsL := [(.ref b57), (.int (0 : Int32)), (.int (0 : Int32)), (.int (0 : Int32))]) (rest := []) (lenOf pd___IIII_I rfl) rfl (by show 2 * 0 + _ ≤ _; exact Nat.le_of_eq rfl) (hb hby d1_210) (fun _ _ => ⟨rfl, e117, (by decide : 4 + 0 ≤ _), (by decide : 14 + 0 ≤ _)⟩)
  dsimp only [Pt.U, Pt.locs, Pt.cells, Pt.slots] at X132 l132 y132 z132 st132 hQ132
  subst l132 y132 z132
  obtain ⟨rfl, N132q, e132⟩ := hQ132
  have N132 := Fr.app N117 N132q
  refine OG.step st132 ?_
  obtain ⟨Lz133, X132, N132⟩ : ∃ Lz, Stand p l e rom_1 s m #[(.ref a1), (.int (4 : Int32)), (.ref o2), (.int (0 : Int32))] below meth c T132 Lz 4 14 ∧ Fr n0 Lz := ⟨_, X132, N132⟩
  show OG _ _ _ _ _ _ _ (T132.setTop (mkF m 213 #[.val (.ref a1), .val (.int (4 : Int32)), .val (.ref o2), .val (.int (0 : Int32)), .val (.ref b4), .val (.ref b57), .val (.ref b1_64), .val (.int (0 : Int32)), .val (.int (1 : Int32)), .unset] [(.int (0 : Int32))]))
  have s134 : ∀ tz, Steps p.tables e below (T132.setTop (mkF m 186 #[.val (.ref a1), .val (.int (4 : Int32)), .val (.ref o2), .val (.int (0 : Int32)), .val (.ref b4), .val (.ref b57), .val (.ref b1_64), .val (.int (0 : Int32)), .val (.int (2 : Int32)), .unset] [(.ref a1)])) tz → Steps p.tables e below (T132.setTop (mkF m 213 #[.val (.ref a1), .val (.int (4 : Int32)), .val (.ref o2), .val (.int (0 : Int32)), .val (.ref b4), .val (.ref b57), .val (.ref b1_64), .val (.int (0 : Int32)), .val (.int (1 : Int32)), .unset] [(.int (0 : Int32))])) tz := by
    intro tz kz
    refine XS.istore X132.here hx rfl (hb hby d1_213) rfl (l' := #[.val (.ref a1), .val (.int (4 : Int32)), .val (.ref o2), .val (.int (0 : Int32)), .val (.ref b4), .val (.ref b57), .val (.ref b1_64), .val (.int (0 : Int32)), .val (.int (1 : Int32)), .unset]) rfl ?_
    refine XS.iinc X132.here hx rfl (hb hby d1_215) rfl (l' := #[.val (.ref a1), .val (.int (4 : Int32)), .val (.ref o2), .val (.int (0 : Int32)), .val (.ref b4), .val (.ref b57), .val (.ref b1_64), .val (.int (0 : Int32)), .val (.int (2 : Int32)), .unset]) rfl ?_
    refine XS.goto X132.here hx rfl (pc0 := 218) (pc' := 179) rfl (hb hby d1_218) (by decide) (by decide) ?_
    refine XS.iload X132.here hx rfl (hb hby d1_179) rfl ?_
    refine XS.iloadN X132.here hx rfl (hb hby d1_181) rfl ?_
    show Steps p.tables e below (T132.setTop (mkF m 182 #[.val (.ref a1), .val (.int (4 : Int32)), .val (.ref o2), .val (.int (0 : Int32)), .val (.ref b4), .val (.ref b57), .val (.ref b1_64), .val (.int (0 : Int32)), .val (.int (2 : Int32)), .unset] [(.int (4 : Int32)), (.int (2 : Int32))])) _
    refine XS.icmpNo X132.here hx rfl (hb hby d1_182) rfl (tlt (by decide)).2.1 ?_
    refine XS.aloadN X132.here hx rfl (hb hby d1_185) rfl rfl ?_
    exact kz
  refine OG.step s134 ?_
  obtain ⟨T135, X135, e135, st135⟩ := getF X132 hx hZ hown (host := "") (Or.inl (hw _ (List.mem_of_getElem? (i := 23) rfl))) Via.refl e132 f125 (g := (mkF m 186 #[.val (.ref a1), .val (.int (4 : Int32)), .val (.ref o2), .val (.int (0 : Int32)), .val (.ref b4), .val (.ref b57), .val (.ref b1_64), .val (.int (0 : Int32)), .val (.int (2 : Int32)), .unset] [(.ref a1)])) rfl rfl (hb hby d1_186)
  refine OG.step st135 ?_
  show OG _ _ _ _ _ _ _ (T135.setTop (mkF m 189 #[.val (.ref a1), .val (.int (4 : Int32)), .val (.ref o2), .val (.int (0 : Int32)), .val (.ref b4), .val (.ref b57), .val (.ref b1_64), .val (.int (0 : Int32)), .val (.int (2 : Int32)), .unset] [(.ref b74)]))
  have s136 : ∀ tz, Steps p.tables e below (T135.setTop (mkF m 193 #[.val (.ref a1), .val (.int (4 : Int32)), .val (.ref o2), .val (.int (0 : Int32)), .val (.ref b4), .val (.ref b57), .val (.ref b1_64), .val (.int (0 : Int32)), .val (.int (2 : Int32)), .unset] [(.int (0 : Int32)), (.int (2 : Int32)), (.ref b74)])) tz → Steps p.tables e below (T135.setTop (mkF m 189 #[.val (.ref a1), .val (.int (4 : Int32)), .val (.ref o2), .val (.int (0 : Int32)), .val (.ref b4), .val (.ref b57), .val (.ref b1_64), .val (.int (0 : Int32)), .val (.int (2 : Int32)), .unset] [(.ref b74)])) tz := by
    intro tz kz
    refine XS.iload X135.here hx rfl (hb hby d1_189) rfl ?_
    refine XS.iload X135.here hx rfl (hb hby d1_191) rfl ?_
    exact kz
  refine OG.step s136 ?_
  have av137 := V117
  obtain ⟨cl137, Ar137, qa_137, Sa_137, Nn_137, Ha_137, Ga_137⟩ := av137
  have hin137 : ¬ ((2 : Int32) < 0 ∨ cl137.slots.size ≤ ((2 : Int32)).toNatClampNeg) := inb_of Sa_137 ⟨(by decide), (by decide)⟩
  obtain ⟨T138, h138, X138, e138, W138, st138⟩ := stI X135 hx hZ e135 Ar137 (j := (2 : Int32)) hin137 (g := (mkF m 193 #[.val (.ref a1), .val (.int (4 : Int32)), .val (.ref o2), .val (.int (0 : Int32)), .val (.ref b4), .val (.ref b57), .val (.ref b1_64), .val (.int (0 : Int32)), .val (.int (2 : Int32)), .unset] [(.int (0 : Int32)), (.int (2 : Int32)), (.ref b74)])) rfl rfl (hb hby d1_193)
  refine OG.step st138 ?_
  have Va138 := Arv.set Ar137 qa_137 Sa_137 Nn_137 Ha_137 Ga_137 rfl W138 (2) (by decide) (Nat.le_of_ble_eq_true rfl)
  have V138 : Arv Z h138 b74 k74 .int (5 : Int32) [(.int (0 : Int32)), (.int (0 : Int32)), (.int (0 : Int32)), (.int (0 : Int32)), (.int (0 : Int32))] (.int (0 : Int32)) := Va138
  have f139 := f118.wr W138
  have f140 := f119.other W138 (Or.inl ne74_a1)
  have f141 := f120.wr W138
  have f142 := f121.other W138 ne74_b4
  have f143 := f122.wr W138
  have f144 := f123.other W138 ne74_b57
  have f145 := f124.wr W138
  have f146 := f125.other W138 (Or.inl ne74_a1)
  have K138 := K117.wr W138 (Or.inr sz74)
  have N138 := Fr.snoc X138 N132 ge74
  obtain ⟨Lz147, X138, N138⟩ : ∃ Lz, Stand p l e rom_1 s m #[(.ref a1), (.int (4 : Int32)), (.ref o2), (.int (0 : Int32))] below meth c T138 Lz 4 14 ∧ Fr n0 Lz := ⟨_, X138, N138⟩
  show OG _ _ _ _ _ _ _ (T138.setTop (mkF m 194 #[.val (.ref a1), .val (.int (4 : Int32)), .val (.ref o2), .val (.int (0 : Int32)), .val (.ref b4), .val (.ref b57), .val (.ref b1_64), .val (.int (0 : Int32)), .val (.int (2 : Int32)), .unset] []))
  have s148 : ∀ tz, Steps p.tables e below (T138.setTop (mkF m 200 #[.val (.ref a1), .val (.int (4 : Int32)), .val (.ref o2), .val (.int (0 : Int32)), .val (.ref b4), .val (.ref b57), .val (.ref b1_64), .val (.int (0 : Int32)), .val (.int (2 : Int32)), .unset] [(.int (2 : Int32)), (.ref b4), (.ref b57)])) tz → Steps p.tables e below (T138.setTop (mkF m 194 #[.val (.ref a1), .val (.int (4 : Int32)), .val (.ref o2), .val (.int (0 : Int32)), .val (.ref b4), .val (.ref b57), .val (.ref b1_64), .val (.int (0 : Int32)), .val (.int (2 : Int32)), .unset] [])) tz := by
    intro tz kz
    refine XS.aload X138.here hx rfl (hb hby d1_194) rfl rfl ?_
    refine XS.aload X138.here hx rfl (hb hby d1_196) rfl rfl ?_
    refine XS.iload X138.here hx rfl (hb hby d1_198) rfl ?_
    exact kz
  refine OG.step s148 ?_
  have av149 := f142
  obtain ⟨cl149, Ar149, qa_149, Sa_149, Nn_149, Ha_149, Ga_149⟩ := av149
  have hin149 : ¬ ((2 : Int32) < 0 ∨ cl149.slots.size ≤ ((2 : Int32)).toNatClampNeg) := inb_of Sa_149 ⟨(by decide), (by decide)⟩
  have hat149 : cl149.slots[((2 : Int32)).toNatClampNeg]? = some (.int (0 : Int32)) := Ha_149.at hin149 rfl
  refine OG.step (X138.iaload hx (j := (2 : Int32)) (v := (.int (0 : Int32))) (by rw [e138]; exact Ar149.1) (State.isArrayOf_alike hZ.alike Ar149.2.1) Ar149.2.2 hin149 hat149 (g := (mkF m 200 #[.val (.ref a1), .val (.int (4 : Int32)), .val (.ref o2), .val (.int (0 : Int32)), .val (.ref b4), .val (.ref b57), .val (.ref b1_64), .val (.int (0 : Int32)), .val (.int (2 : Int32)), .unset] [(.int (2 : Int32)), (.ref b4), (.ref b57)])) rfl rfl (hb hby d1_200)) ?_
  show OG _ _ _ _ _ _ _ (T138.setTop (mkF m 201 #[.val (.ref a1), .val (.int (4 : Int32)), .val (.ref o2), .val (.int (0 : Int32)), .val (.ref b4), .val (.ref b57), .val (.ref b1_64), .val (.int (0 : Int32)), .val (.int (2 : Int32)), .unset] [(.int (0 : Int32)), (.ref b57)]))
  have s150 : ∀ tz, Steps p.tables e below (T138.setTop (mkF m 207 #[.val (.ref a1), .val (.int (4 : Int32)), .val (.ref o2), .val (.int (0 : Int32)), .val (.ref b4), .val (.ref b57), .val (.ref b1_64), .val (.int (0 : Int32)), .val (.int (2 : Int32)), .unset] [(.int (3 : Int32)), (.ref b4), (.int (0 : Int32)), (.ref b57)])) tz → Steps p.tables e below (T138.setTop (mkF m 201 #[.val (.ref a1), .val (.int (4 : Int32)), .val (.ref o2), .val (.int (0 : Int32)), .val (.ref b4), .val (.ref b57), .val (.ref b1_64), .val (.int (0 : Int32)), .val (.int (2 : Int32)), .unset] [(.int (0 : Int32)), (.ref b57)])) tz := by
    intro tz kz
    refine XS.aload X138.here hx rfl (hb hby d1_201) rfl rfl ?_
    refine XS.iload X138.here hx rfl (hb hby d1_203) rfl ?_
    refine XS.iconst X138.here hx rfl (hb hby d1_205) ?_
    refine XS.iadd X138.here hx rfl (hb hby d1_206) rfl ?_
    exact kz
  refine OG.step s150 ?_
  have av151 := f142
  obtain ⟨cl151, Ar151, qa_151, Sa_151, Nn_151, Ha_151, Ga_151⟩ := av151
  have hin151 : ¬ ((3 : Int32) < 0 ∨ cl151.slots.size ≤ ((3 : Int32)).toNatClampNeg) := inb_of Sa_151 ⟨(by decide), (by decide)⟩
  have hat151 : cl151.slots[((3 : Int32)).toNatClampNeg]? = some (.int (0 : Int32)) := Ha_151.at hin151 rfl
  refine OG.step (X138.iaload hx (j := (3 : Int32)) (v := (.int (0 : Int32))) (by rw [e138]; exact Ar151.1) (State.isArrayOf_alike hZ.alike Ar151.2.1) Ar151.2.2 hin151 hat151 (g := (mkF m 207 #[.val (.ref a1), .val (.int (4 : Int32)), .val (.ref o2), .val (.int (0 : Int32)), .val (.ref b4), .val (.ref b57), .val (.ref b1_64), .val (.int (0 : Int32)), .val (.int (2 : Int32)), .unset] [(.int (3 : Int32)), (.ref b4), (.int (0 : Int32)), (.ref b57)])) rfl rfl (hb hby d1_207)) ?_
  show OG _ _ _ _ _ _ _ (T138.setTop (mkF m 208 #[.val (.ref a1), .val (.int (4 : Int32)), .val (.ref o2), .val (.int (0 : Int32)), .val (.ref b4), .val (.ref b57), .val (.ref b1_64), .val (.int (0 : Int32)), .val (.int (2 : Int32)), .unset] [(.int (0 : Int32)), (.int (0 : Int32)), (.ref b57)]))
  have s152 : ∀ tz, Steps p.tables e below (T138.setTop (mkF m 210 #[.val (.ref a1), .val (.int (4 : Int32)), .val (.ref o2), .val (.int (0 : Int32)), .val (.ref b4), .val (.ref b57), .val (.ref b1_64), .val (.int (0 : Int32)), .val (.int (2 : Int32)), .unset] [(.int (0 : Int32)), (.int (0 : Int32)), (.int (0 : Int32)), (.ref b57)])) tz → Steps p.tables e below (T138.setTop (mkF m 208 #[.val (.ref a1), .val (.int (4 : Int32)), .val (.ref o2), .val (.int (0 : Int32)), .val (.ref b4), .val (.ref b57), .val (.ref b1_64), .val (.int (0 : Int32)), .val (.int (2 : Int32)), .unset] [(.int (0 : Int32)), (.int (0 : Int32)), (.ref b57)])) tz := by
    intro tz kz
    refine XS.iload X138.here hx rfl (hb hby d1_208) rfl ?_
    exact kz
  refine OG.step s152 ?_
  obtain ⟨_, _, ⟨T153, L153, k153, n153⟩, -, X153, ⟨Lc153, hQ153, l153, y153, z153⟩, st153⟩ := Jvm.LawKit.callS X138 hx (y := (⟨"com/example/tidegraph/tidegraph/amd64/InterferenceGraph", "keep", "([IIII)I"⟩ : MethodName)) hown (mvT hZ (hw _ (List.mem_of_getElem? (i := 25) rfl))) (mvT hZ (hw _ (List.mem_of_getElem? (i := 26) rfl))) (mvT hZ (hw _ (List.mem_of_getElem? (i := 2) rfl))) (mvT hZ (hw _ (List.mem_of_getElem? (i := 27) rfl))) (by decide) (backOf (W := 0) (rm5 l Z a0 hw [] b57 h138 n0 (Nat.le_trans Z0 K138.1)) hZ (hw _ (List.mem_of_getElem? (i := 27) rfl)) (hw _ (List.mem_of_getElem? (i := 2) rfl)) (by decide) (by decide)) (g := (mkF m 210 #[.val (.ref a1), .val (.int (4 : Int32)), .val (.ref o2), .val (.int (0 : Int32)), .val (.ref b4), .val (.ref b57), .val (.ref b1_64), .val (.int (0 : Int32)), .val (.int (2 : Int32)), .unset] [(.int (0 : Int32)), (.int (0 : Int32)), (.int (0 : Int32)), (.ref b57)])) rfl (by rw [hml]; rfl) (argsL := [(.ref b57), (.int (0 : Int32)), (.int (0 : Int32)), (.int (0 : Int32))]) (rest := []) (lenOf pd___IIII_I rfl) rfl (by show 2 * 0 + _ ≤ _; exact Nat.le_of_eq rfl) (hb hby d1_210) (fun _ _ => ⟨rfl, e138, (by decide : 4 + 0 ≤ _), (by decide : 14 + 0 ≤ _)⟩)
  dsimp only [Pt.U, Pt.locs, Pt.cells, Pt.slots] at X153 l153 y153 z153 st153 hQ153
  subst l153 y153 z153
  obtain ⟨rfl, N153q, e153⟩ := hQ153
  have N153 := Fr.app N138 N153q
  refine OG.step st153 ?_
  obtain ⟨Lz154, X153, N153⟩ : ∃ Lz, Stand p l e rom_1 s m #[(.ref a1), (.int (4 : Int32)), (.ref o2), (.int (0 : Int32))] below meth c T153 Lz 4 14 ∧ Fr n0 Lz := ⟨_, X153, N153⟩
  show OG _ _ _ _ _ _ _ (T153.setTop (mkF m 213 #[.val (.ref a1), .val (.int (4 : Int32)), .val (.ref o2), .val (.int (0 : Int32)), .val (.ref b4), .val (.ref b57), .val (.ref b1_64), .val (.int (0 : Int32)), .val (.int (2 : Int32)), .unset] [(.int (0 : Int32))]))
  have s155 : ∀ tz, Steps p.tables e below (T153.setTop (mkF m 186 #[.val (.ref a1), .val (.int (4 : Int32)), .val (.ref o2), .val (.int (0 : Int32)), .val (.ref b4), .val (.ref b57), .val (.ref b1_64), .val (.int (0 : Int32)), .val (.int (3 : Int32)), .unset] [(.ref a1)])) tz → Steps p.tables e below (T153.setTop (mkF m 213 #[.val (.ref a1), .val (.int (4 : Int32)), .val (.ref o2), .val (.int (0 : Int32)), .val (.ref b4), .val (.ref b57), .val (.ref b1_64), .val (.int (0 : Int32)), .val (.int (2 : Int32)), .unset] [(.int (0 : Int32))])) tz := by
    intro tz kz
    refine XS.istore X153.here hx rfl (hb hby d1_213) rfl (l' := #[.val (.ref a1), .val (.int (4 : Int32)), .val (.ref o2), .val (.int (0 : Int32)), .val (.ref b4), .val (.ref b57), .val (.ref b1_64), .val (.int (0 : Int32)), .val (.int (2 : Int32)), .unset]) rfl ?_
    refine XS.iinc X153.here hx rfl (hb hby d1_215) rfl (l' := #[.val (.ref a1), .val (.int (4 : Int32)), .val (.ref o2), .val (.int (0 : Int32)), .val (.ref b4), .val (.ref b57), .val (.ref b1_64), .val (.int (0 : Int32)), .val (.int (3 : Int32)), .unset]) rfl ?_
    refine XS.goto X153.here hx rfl (pc0 := 218) (pc' := 179) rfl (hb hby d1_218) (by decide) (by decide) ?_
    refine XS.iload X153.here hx rfl (hb hby d1_179) rfl ?_
    refine XS.iloadN X153.here hx rfl (hb hby d1_181) rfl ?_
    show Steps p.tables e below (T153.setTop (mkF m 182 #[.val (.ref a1), .val (.int (4 : Int32)), .val (.ref o2), .val (.int (0 : Int32)), .val (.ref b4), .val (.ref b57), .val (.ref b1_64), .val (.int (0 : Int32)), .val (.int (3 : Int32)), .unset] [(.int (4 : Int32)), (.int (3 : Int32))])) _
    refine XS.icmpNo X153.here hx rfl (hb hby d1_182) rfl (tlt (by decide)).2.1 ?_
    refine XS.aloadN X153.here hx rfl (hb hby d1_185) rfl rfl ?_
    exact kz
  refine OG.step s155 ?_
  obtain ⟨T156, X156, e156, st156⟩ := getF X153 hx hZ hown (host := "") (Or.inl (hw _ (List.mem_of_getElem? (i := 23) rfl))) Via.refl e153 f146 (g := (mkF m 186 #[.val (.ref a1), .val (.int (4 : Int32)), .val (.ref o2), .val (.int (0 : Int32)), .val (.ref b4), .val (.ref b57), .val (.ref b1_64), .val (.int (0 : Int32)), .val (.int (3 : Int32)), .unset] [(.ref a1)])) rfl rfl (hb hby d1_186)
  refine OG.step st156 ?_
  show OG _ _ _ _ _ _ _ (T156.setTop (mkF m 189 #[.val (.ref a1), .val (.int (4 : Int32)), .val (.ref o2), .val (.int (0 : Int32)), .val (.ref b4), .val (.ref b57), .val (.ref b1_64), .val (.int (0 : Int32)), .val (.int (3 : Int32)), .unset] [(.ref b74)]))
  have s157 : ∀ tz, Steps p.tables e below (T156.setTop (mkF m 193 #[.val (.ref a1), .val (.int (4 : Int32)), .val (.ref o2), .val (.int (0 : Int32)), .val (.ref b4), .val (.ref b57), .val (.ref b1_64), .val (.int (0 : Int32)), .val (.int (3 : Int32)), .unset] [(.int (0 : Int32)), (.int (3 : Int32)), (.ref b74)])) tz → Steps p.tables e below (T156.setTop (mkF m 189 #[.val (.ref a1), .val (.int (4 : Int32)), .val (.ref o2), .val (.int (0 : Int32)), .val (.ref b4), .val (.ref b57), .val (.ref b1_64), .val (.int (0 : Int32)), .val (.int (3 : Int32)), .unset] [(.ref b74)])) tz := by
    intro tz kz
    refine XS.iload X156.here hx rfl (hb hby d1_189) rfl ?_
    refine XS.iload X156.here hx rfl (hb hby d1_191) rfl ?_
    exact kz
  refine OG.step s157 ?_
  have av158 := V138
  obtain ⟨cl158, Ar158, qa_158, Sa_158, Nn_158, Ha_158, Ga_158⟩ := av158
  have hin158 : ¬ ((3 : Int32) < 0 ∨ cl158.slots.size ≤ ((3 : Int32)).toNatClampNeg) := inb_of Sa_158 ⟨(by decide), (by decide)⟩
  obtain ⟨T159, h159, X159, e159, W159, st159⟩ := stI X156 hx hZ e156 Ar158 (j := (3 : Int32)) hin158 (g := (mkF m 193 #[.val (.ref a1), .val (.int (4 : Int32)), .val (.ref o2), .val (.int (0 : Int32)), .val (.ref b4), .val (.ref b57), .val (.ref b1_64), .val (.int (0 : Int32)), .val (.int (3 : Int32)), .unset] [(.int (0 : Int32)), (.int (3 : Int32)), (.ref b74)])) rfl rfl (hb hby d1_193)
  refine OG.step st159 ?_
  have Va159 := Arv.set Ar158 qa_158 Sa_158 Nn_158 Ha_158 Ga_158 rfl W159 (3) (by decide) (Nat.le_of_ble_eq_true rfl)
  have V159 : Arv Z h159 b74 k74 .int (5 : Int32) [(.int (0 : Int32)), (.int (0 : Int32)), (.int (0 : Int32)), (.int (0 : Int32)), (.int (0 : Int32))] (.int (0 : Int32)) := Va159
  have f160 := f139.wr W159
  have f161 := f140.other W159 (Or.inl ne74_a1)
  have f162 := f141.wr W159
  have f163 := f142.other W159 ne74_b4
  have f164 := f143.wr W159
  have f165 := f144.other W159 ne74_b57
  have f166 := f145.wr W159
  have f167 := f146.other W159 (Or.inl ne74_a1)
  have K159 := K138.wr W159 (Or.inr sz74)
  have N159 := Fr.snoc X159 N153 ge74
  obtain ⟨Lz168, X159, N159⟩ : ∃ Lz, Stand p l e rom_1 s m #[(.ref a1), (.int (4 : Int32)), (.ref o2), (.int (0 : Int32))] below meth c T159 Lz 4 14 ∧ Fr n0 Lz := ⟨_, X159, N159⟩
  show OG _ _ _ _ _ _ _ (T159.setTop (mkF m 194 #[.val (.ref a1), .val (.int (4 : Int32)), .val (.ref o2), .val (.int (0 : Int32)), .val (.ref b4), .val (.ref b57), .val (.ref b1_64), .val (.int (0 : Int32)), .val (.int (3 : Int32)), .unset] []))
  have s169 : ∀ tz, Steps p.tables e below (T159.setTop (mkF m 200 #[.val (.ref a1), .val (.int (4 : Int32)), .val (.ref o2), .val (.int (0 : Int32)), .val (.ref b4), .val (.ref b57), .val (.ref b1_64), .val (.int (0 : Int32)), .val (.int (3 : Int32)), .unset] [(.int (3 : Int32)), (.ref b4), (.ref b57)])) tz → Steps p.tables e below (T159.setTop (mkF m 194 #[.val (.ref a1), .val (.int (4 : Int32)), .val (.ref o2), .val (.int (0 : Int32)), .val (.ref b4), .val (.ref b57), .val (.ref b1_64), .val (.int (0 : Int32)), .val (.int (3 : Int32)), .unset] [])) tz := by
    intro tz kz
    refine XS.aload X159.here hx rfl (hb hby d1_194) rfl rfl ?_
    refine XS.aload X159.here hx rfl (hb hby d1_196) rfl rfl ?_
    refine XS.iload X159.here hx rfl (hb hby d1_198) rfl ?_
    exact kz
  refine OG.step s169 ?_
  have av170 := f163
  obtain ⟨cl170, Ar170, qa_170, Sa_170, Nn_170, Ha_170, Ga_170⟩ := av170
  have hin170 : ¬ ((3 : Int32) < 0 ∨ cl170.slots.size ≤ ((3 : Int32)).toNatClampNeg) := inb_of Sa_170 ⟨(by decide), (by decide)⟩
  have hat170 : cl170.slots[((3 : Int32)).toNatClampNeg]? = some (.int (0 : Int32)) := Ha_170.at hin170 rfl
  refine OG.step (X159.iaload hx (j := (3 : Int32)) (v := (.int (0 : Int32))) (by rw [e159]; exact Ar170.1) (State.isArrayOf_alike hZ.alike Ar170.2.1) Ar170.2.2 hin170 hat170 (g := (mkF m 200 #[.val (.ref a1), .val (.int (4 : Int32)), .val (.ref o2), .val (.int (0 : Int32)), .val (.ref b4), .val (.ref b57), .val (.ref b1_64), .val (.int (0 : Int32)), .val (.int (3 : Int32)), .unset] [(.int (3 : Int32)), (.ref b4), (.ref b57)])) rfl rfl (hb hby d1_200)) ?_
  show OG _ _ _ _ _ _ _ (T159.setTop (mkF m 201 #[.val (.ref a1), .val (.int (4 : Int32)), .val (.ref o2), .val (.int (0 : Int32)), .val (.ref b4), .val (.ref b57), .val (.ref b1_64), .val (.int (0 : Int32)), .val (.int (3 : Int32)), .unset] [(.int (0 : Int32)), (.ref b57)]))
  have s171 : ∀ tz, Steps p.tables e below (T159.setTop (mkF m 207 #[.val (.ref a1), .val (.int (4 : Int32)), .val (.ref o2), .val (.int (0 : Int32)), .val (.ref b4), .val (.ref b57), .val (.ref b1_64), .val (.int (0 : Int32)), .val (.int (3 : Int32)), .unset] [(.int (4 : Int32)), (.ref b4), (.int (0 : Int32)), (.ref b57)])) tz → Steps p.tables e below (T159.setTop (mkF m 201 #[.val (.ref a1), .val (.int (4 : Int32)), .val (.ref o2), .val (.int (0 : Int32)), .val (.ref b4), .val (.ref b57), .val (.ref b1_64), .val (.int (0 : Int32)), .val (.int (3 : Int32)), .unset] [(.int (0 : Int32)), (.ref b57)])) tz := by
    intro tz kz
    refine XS.aload X159.here hx rfl (hb hby d1_201) rfl rfl ?_
    refine XS.iload X159.here hx rfl (hb hby d1_203) rfl ?_
    refine XS.iconst X159.here hx rfl (hb hby d1_205) ?_
    refine XS.iadd X159.here hx rfl (hb hby d1_206) rfl ?_
    exact kz
  refine OG.step s171 ?_
  have av172 := f163
  obtain ⟨cl172, Ar172, qa_172, Sa_172, Nn_172, Ha_172, Ga_172⟩ := av172
  have hin172 : ¬ ((4 : Int32) < 0 ∨ cl172.slots.size ≤ ((4 : Int32)).toNatClampNeg) := inb_of Sa_172 ⟨(by decide), (by decide)⟩
  have hat172 : cl172.slots[((4 : Int32)).toNatClampNeg]? = some (.int (0 : Int32)) := Ha_172.at hin172 rfl
  refine OG.step (X159.iaload hx (j := (4 : Int32)) (v := (.int (0 : Int32))) (by rw [e159]; exact Ar172.1) (State.isArrayOf_alike hZ.alike Ar172.2.1) Ar172.2.2 hin172 hat172 (g := (mkF m 207 #[.val (.ref a1), .val (.int (4 : Int32)), .val (.ref o2), .val (.int (0 : Int32)), .val (.ref b4), .val (.ref b57), .val (.ref b1_64), .val (.int (0 : Int32)), .val (.int (3 : Int32)), .unset] [(.int (4 : Int32)), (.ref b4), (.int (0 : Int32)), (.ref b57)])) rfl rfl (hb hby d1_207)) ?_
  show OG _ _ _ _ _ _ _ (T159.setTop (mkF m 208 #[.val (.ref a1), .val (.int (4 : Int32)), .val (.ref o2), .val (.int (0 : Int32)), .val (.ref b4), .val (.ref b57), .val (.ref b1_64), .val (.int (0 : Int32)), .val (.int (3 : Int32)), .unset] [(.int (0 : Int32)), (.int (0 : Int32)), (.ref b57)]))
  have s173 : ∀ tz, Steps p.tables e below (T159.setTop (mkF m 210 #[.val (.ref a1), .val (.int (4 : Int32)), .val (.ref o2), .val (.int (0 : Int32)), .val (.ref b4), .val (.ref b57), .val (.ref b1_64), .val (.int (0 : Int32)), .val (.int (3 : Int32)), .unset] [(.int (0 : Int32)), (.int (0 : Int32)), (.int (0 : Int32)), (.ref b57)])) tz → Steps p.tables e below (T159.setTop (mkF m 208 #[.val (.ref a1), .val (.int (4 : Int32)), .val (.ref o2), .val (.int (0 : Int32)), .val (.ref b4), .val (.ref b57), .val (.ref b1_64), .val (.int (0 : Int32)), .val (.int (3 : Int32)), .unset] [(.int (0 : Int32)), (.int (0 : Int32)), (.ref b57)])) tz := by
    intro tz kz
    refine XS.iload X159.here hx rfl (hb hby d1_208) rfl ?_
    exact kz
  refine OG.step s173 ?_
  obtain ⟨_, _, ⟨T174, L174, k174, n174⟩, -, X174, ⟨Lc174, hQ174, l174, y174, z174⟩, st174⟩ := Jvm.LawKit.callS X159 hx (y := (⟨"com/example/tidegraph/tidegraph/amd64/InterferenceGraph", "keep", "([IIII)I"⟩ : MethodName)) hown (mvT hZ (hw _ (List.mem_of_getElem? (i := 25) rfl))) (mvT hZ (hw _ (List.mem_of_getElem? (i := 26) rfl))) (mvT hZ (hw _ (List.mem_of_getElem? (i := 2) rfl))) (mvT hZ (hw _ (List.mem_of_getElem? (i := 27) rfl))) (by decide) (backOf (W := 0) (rm5 l Z a0 hw [] b57 h159 n0 (Nat.le_trans Z0 K159.1)) hZ (hw _ (List.mem_of_getElem? (i := 27) rfl)) (hw _ (List.mem_of_getElem? (i := 2) rfl)) (by decide) (by decide)) (g := (mkF m 210 #[.val (.ref a1), .val (.int (4 : Int32)), .val (.ref o2), .val (.int (0 : Int32)), .val (.ref b4), .val (.ref b57), .val (.ref b1_64), .val (.int (0 : Int32)), .val (.int (3 : Int32)), .unset] [(.int (0 : Int32)), (.int (0 : Int32)), (.int (0 : Int32)), (.ref b57)])) rfl (by rw [hml]; rfl) (argsL := [(.ref b57), (.int (0 : Int32)), (.int (0 : Int32)), (.int (0 : Int32))]) (rest := []) (lenOf pd___IIII_I rfl) rfl (by show 2 * 0 + _ ≤ _; exact Nat.le_of_eq rfl) (hb hby d1_210) (fun _ _ => ⟨rfl, e159, (by decide : 4 + 0 ≤ _), (by decide : 14 + 0 ≤ _)⟩)
  dsimp only [Pt.U, Pt.locs, Pt.cells, Pt.slots] at X174 l174 y174 z174 st174 hQ174
  subst l174 y174 z174
  obtain ⟨rfl, N174q, e174⟩ := hQ174
  have N174 := Fr.app N159 N174q
  refine OG.step st174 ?_
  obtain ⟨Lz175, X174, N174⟩ : ∃ Lz, Stand p l e rom_1 s m #[(.ref a1), (.int (4 : Int32)), (.ref o2), (.int (0 : Int32))] below meth c T174 Lz 4 14 ∧ Fr n0 Lz := ⟨_, X174, N174⟩
  show OG _ _ _ _ _ _ _ (T174.setTop (mkF m 213 #[.val (.ref a1), .val (.int (4 : Int32)), .val (.ref o2), .val (.int (0 : Int32)), .val (.ref b4), .val (.ref b57), .val (.ref b1_64), .val (.int (0 : Int32)), .val (.int (3 : Int32)), .unset] [(.int (0 : Int32))]))
  have s176 : ∀ tz, Steps p.tables e below (T174.setTop (mkF m 222 #[.val (.ref a1), .val (.int (4 : Int32)), .val (.ref o2), .val (.int (0 : Int32)), .val (.ref b4), .val (.ref b57), .val (.ref b1_64), .val (.int (0 : Int32)), .val (.int (4 : Int32)), .unset] [(.ref a1)])) tz → Steps p.tables e below (T174.setTop (mkF m 213 #[.val (.ref a1), .val (.int (4 : Int32)), .val (.ref o2), .val (.int (0 : Int32)), .val (.ref b4), .val (.ref b57), .val (.ref b1_64), .val (.int (0 : Int32)), .val (.int (3 : Int32)), .unset] [(.int (0 : Int32))])) tz := by
    intro tz kz
    refine XS.istore X174.here hx rfl (hb hby d1_213) rfl (l' := #[.val (.ref a1), .val (.int (4 : Int32)), .val (.ref o2), .val (.int (0 : Int32)), .val (.ref b4), .val (.ref b57), .val (.ref b1_64), .val (.int (0 : Int32)), .val (.int (3 : Int32)), .unset]) rfl ?_
    refine XS.iinc X174.here hx rfl (hb hby d1_215) rfl (l' := #[.val (.ref a1), .val (.int (4 : Int32)), .val (.ref o2), .val (.int (0 : Int32)), .val (.ref b4), .val (.ref b57), .val (.ref b1_64), .val (.int (0 : Int32)), .val (.int (4 : Int32)), .unset]) rfl ?_
    refine XS.goto X174.here hx rfl (pc0 := 218) (pc' := 179) rfl (hb hby d1_218) (by decide) (by decide) ?_
    refine XS.iload X174.here hx rfl (hb hby d1_179) rfl ?_
    refine XS.iloadN X174.here hx rfl (hb hby d1_181) rfl ?_
    show Steps p.tables e below (T174.setTop (mkF m 182 #[.val (.ref a1), .val (.int (4 : Int32)), .val (.ref o2), .val (.int (0 : Int32)), .val (.ref b4), .val (.ref b57), .val (.ref b1_64), .val (.int (0 : Int32)), .val (.int (4 : Int32)), .unset] [(.int (4 : Int32)), (.int (4 : Int32))])) _
    refine XS.icmpYes X174.here hx rfl (pc0 := 182) (pc' := 221) rfl (hb hby d1_182) rfl (flt (by decide)).2.1 (by decide) (by decide) ?_
    refine XS.aloadN X174.here hx rfl (hb hby d1_221) rfl rfl ?_
    exact kz
  refine OG.step s176 ?_
  obtain ⟨T177, X177, e177, st177⟩ := getF X174 hx hZ hown (host := "") (Or.inl (hw _ (List.mem_of_getElem? (i := 23) rfl))) Via.refl e174 f167 (g := (mkF m 222 #[.val (.ref a1), .val (.int (4 : Int32)), .val (.ref o2), .val (.int (0 : Int32)), .val (.ref b4), .val (.ref b57), .val (.ref b1_64), .val (.int (0 : Int32)), .val (.int (4 : Int32)), .unset] [(.ref a1)])) rfl rfl (hb hby d1_222)
  refine OG.step st177 ?_
  show OG _ _ _ _ _ _ _ (T177.setTop (mkF m 225 #[.val (.ref a1), .val (.int (4 : Int32)), .val (.ref o2), .val (.int (0 : Int32)), .val (.ref b4), .val (.ref b57), .val (.ref b1_64), .val (.int (0 : Int32)), .val (.int (4 : Int32)), .unset] [(.ref b74)]))
  have s178 : ∀ tz, Steps p.tables e below (T177.setTop (mkF m 228 #[.val (.ref a1), .val (.int (4 : Int32)), .val (.ref o2), .val (.int (0 : Int32)), .val (.ref b4), .val (.ref b57), .val (.ref b1_64), .val (.int (0 : Int32)), .val (.int (4 : Int32)), .unset] [(.int (0 : Int32)), (.int (4 : Int32)), (.ref b74)])) tz → Steps p.tables e below (T177.setTop (mkF m 225 #[.val (.ref a1), .val (.int (4 : Int32)), .val (.ref o2), .val (.int (0 : Int32)), .val (.ref b4), .val (.ref b57), .val (.ref b1_64), .val (.int (0 : Int32)), .val (.int (4 : Int32)), .unset] [(.ref b74)])) tz := by
    intro tz kz
    refine XS.iloadN X177.here hx rfl (hb hby d1_225) rfl ?_
    refine XS.iload X177.here hx rfl (hb hby d1_226) rfl ?_
    exact kz
  refine OG.step s178 ?_
  have av179 := V159
  obtain ⟨cl179, Ar179, qa_179, Sa_179, Nn_179, Ha_179, Ga_179⟩ := av179
  have hin179 : ¬ ((4 : Int32) < 0 ∨ cl179.slots.size ≤ ((4 : Int32)).toNatClampNeg) := inb_of Sa_179 ⟨(by decide), (by decide)⟩
  obtain ⟨T180, h180, X180, e180, W180, st180⟩ := stI X177 hx hZ e177 Ar179 (j := (4 : Int32)) hin179 (g := (mkF m 228 #[.val (.ref a1), .val (.int (4 : Int32)), .val (.ref o2), .val (.int (0 : Int32)), .val (.ref b4), .val (.ref b57), .val (.ref b1_64), .val (.int (0 : Int32)), .val (.int (4 : Int32)), .unset] [(.int (0 : Int32)), (.int (4 : Int32)), (.ref b74)])) rfl rfl (hb hby d1_228)
  refine OG.step st180 ?_
  have Va180 := Arv.set Ar179 qa_179 Sa_179 Nn_179 Ha_179 Ga_179 rfl W180 (4) (by decide) (Nat.le_of_ble_eq_true rfl)
  have V180 : Arv Z h180 b74 k74 .int (5 : Int32) [(.int (0 : Int32)), (.int (0 : Int32)), (.int (0 : Int32)), (.int (0 : Int32)), (.int (0 : Int32))] (.int (0 : Int32)) := Va180
  have f181 := f160.wr W180
  have f182 := f161.other W180 (Or.inl ne74_a1)
  have f183 := f162.wr W180
  have f184 := f163.other W180 ne74_b4
  have f185 := f164.wr W180
  have f186 := f165.other W180 ne74_b57
  have f187 := f166.wr W180
  have f188 := f167.other W180 (Or.inl ne74_a1)
  have K180 := K159.wr W180 (Or.inr sz74)
  have N180 := Fr.snoc X180 N174 ge74
  obtain ⟨Lz189, X180, N180⟩ : ∃ Lz, Stand p l e rom_1 s m #[(.ref a1), (.int (4 : Int32)), (.ref o2), (.int (0 : Int32))] below meth c T180 Lz 4 14 ∧ Fr n0 Lz := ⟨_, X180, N180⟩
  show OG _ _ _ _ _ _ _ (T180.setTop (mkF m 229 #[.val (.ref a1), .val (.int (4 : Int32)), .val (.ref o2), .val (.int (0 : Int32)), .val (.ref b4), .val (.ref b57), .val (.ref b1_64), .val (.int (0 : Int32)), .val (.int (4 : Int32)), .unset] []))
  have s190 : ∀ tz, Steps p.tables e below (T180.setTop (mkF m 234 #[.val (.ref a1), .val (.int (4 : Int32)), .val (.ref o2), .val (.int (0 : Int32)), .val (.ref b4), .val (.ref b57), .val (.ref b1_64), .val (.int (0 : Int32)), .val (.int (4 : Int32)), .unset] [(.int (0 : Int32)), (.ref b57), (.ref a1)])) tz → Steps p.tables e below (T180.setTop (mkF m 229 #[.val (.ref a1), .val (.int (4 : Int32)), .val (.ref o2), .val (.int (0 : Int32)), .val (.ref b4), .val (.ref b57), .val (.ref b1_64), .val (.int (0 : Int32)), .val (.int (4 : Int32)), .unset] [])) tz := by
    intro tz kz
    refine XS.aloadN X180.here hx rfl (hb hby d1_229) rfl rfl ?_
    refine XS.aload X180.here hx rfl (hb hby d1_230) rfl rfl ?_
    refine XS.iload X180.here hx rfl (hb hby d1_232) rfl ?_
    exact kz
  refine OG.step s190 ?_
  obtain ⟨_, _, ⟨T191, L191, k191, n191⟩, -, X191, ⟨Lc191, hQ191, l191, y191, z191⟩, st191⟩ := Jvm.LawKit.callS X180 hx (y := (⟨"java/util/Arrays", "copyOf", "([II)[I"⟩ : MethodName)) hown (mvT hZ (hw _ (List.mem_of_getElem? (i := 11) rfl))) (mvT hZ (hw _ (List.mem_of_getElem? (i := 12) rfl))) (mvT hZ (hw _ (List.mem_of_getElem? (i := 13) rfl))) (mvT hZ (hw _ (List.mem_of_getElem? (i := 14) rfl))) (by decide) (backOf (W := 1) (rm3b l Z a0 hw [] b57 k57 h180 n0 (Nat.le_trans Z0 K180.1) f185 f186) hZ (hw _ (List.mem_of_getElem? (i := 14) rfl)) (hw _ (List.mem_of_getElem? (i := 13) rfl)) (by decide) (by decide)) (g := (mkF m 234 #[.val (.ref a1), .val (.int (4 : Int32)), .val (.ref o2), .val (.int (0 : Int32)), .val (.ref b4), .val (.ref b57), .val (.ref b1_64), .val (.int (0 : Int32)), .val (.int (4 : Int32)), .unset] [(.int (0 : Int32)), (.ref b57), (.ref a1)])) rfl (by rw [hml]; rfl) (argsL := [(.ref b57), (.int (0 : Int32))]) (rest := [(.ref a1)]) (lenOf pd___II__I rfl) rfl (by show 2 * 0 + _ ≤ _; exact Nat.le_of_eq rfl) (hb hby d1_234) (fun _ _ => ⟨rfl, e180, (by decide : 4 + 1 ≤ _), (by decide : 14 + 0 ≤ _)⟩)
  dsimp only [Pt.U, Pt.locs, Pt.cells, Pt.slots] at X191 l191 y191 z191 st191 hQ191
  subst l191 y191 z191
  obtain ⟨b1_191, rfl, N191q, Kc191, u191_0⟩ := hQ191
  have N191 := Fr.app N180 N191q
  refine OG.step st191 ?_
  have f192 := f181.keep Kc191
  have f193 := f182.keep Kc191 nin0
  have f194 := f183.keep Kc191
  have f195 := f184.keep Kc191 nin0
  have f196 := f185.keep Kc191
  have f197 := f186.keep Kc191 nin0
  have f198 := f187.keep Kc191
  have f199 := f188.keep Kc191 nin0
  have f200 := V180.keep Kc191 nin0
  have K191 := K180.trans Kc191 all0
  obtain ⟨Lz201, X191, N191⟩ : ∃ Lz, Stand p l e rom_1 s m #[(.ref a1), (.int (4 : Int32)), (.ref o2), (.int (0 : Int32))] below meth c T191 Lz 5 14 ∧ Fr n0 Lz := ⟨_, X191, N191⟩
  show OG _ _ _ _ _ _ _ (T191.setTop (mkF m 237 #[.val (.ref a1), .val (.int (4 : Int32)), .val (.ref o2), .val (.int (0 : Int32)), .val (.ref b4), .val (.ref b57), .val (.ref b1_64), .val (.int (0 : Int32)), .val (.int (4 : Int32)), .unset] [(.ref b1_191), (.ref a1)]))
  obtain ⟨T202, h202, X202, e202, W202, st202⟩ := putF X191 hx hZ hown (host := "") (Or.inl (hw _ (List.mem_of_getElem? (i := 37) rfl))) Via.refl rfl f193 f192 (Or.inr ⟨(hw _ (List.mem_of_getElem? (i := 38) rfl)), rfl, hnm⟩) (hw _ (List.mem_of_getElem? (i := 1) rfl)) (ty := (.array .int)) (by decide) rfl rfl (g := (mkF m 237 #[.val (.ref a1), .val (.int (4 : Int32)), .val (.ref o2), .val (.int (0 : Int32)), .val (.ref b4), .val (.ref b57), .val (.ref b1_64), .val (.int (0 : Int32)), .val (.int (4 : Int32)), .unset] [(.ref b1_191), (.ref a1)])) rfl rfl (hb hby d1_237)
  refine OG.step st202 ?_
  have fw202 := f193.same W202
  have f203 := f192.wr W202
  have f204 := f194.wr W202
  have f205 := f195.other W202 (Ne.symm ne4_a1)
  have f206 := f196.wr W202
  have f207 := f197.other W202 (Ne.symm ne57_a1)
  have f208 := f198.wr W202
  have f209 := f199.other W202 (Or.inr (slot_ne (Or.inr (hw _ (List.mem_of_getElem? (i := 24) rfl))) (Or.inr (hw _ (List.mem_of_getElem? (i := 38) rfl))) (by decide) (t := (.array .int)) (t' := (.array .int)) (by decide) (by decide)))
  have f210 := f200.other W202 (Ne.symm ne74_a1)
  have K202 := K191.wr W202 (Or.inl (List.mem_of_getElem? (i := 0) rfl))
  have N202 := Fr.snoc X202 N191 g_a1
  obtain ⟨Lz211, X202, N202⟩ : ∃ Lz, Stand p l e rom_1 s m #[(.ref a1), (.int (4 : Int32)), (.ref o2), (.int (0 : Int32))] below meth c T202 Lz 5 14 ∧ Fr n0 Lz := ⟨_, X202, N202⟩
  show OG _ _ _ _ _ _ _ (T202.setTop (mkF m 240 #[.val (.ref a1), .val (.int (4 : Int32)), .val (.ref o2), .val (.int (0 : Int32)), .val (.ref b4), .val (.ref b57), .val (.ref b1_64), .val (.int (0 : Int32)), .val (.int (4 : Int32)), .unset] []))
  exact OG.retV X202 hx hlk Bd.returns (hb hby d1_240) e202 ⟨b74, k74, rfl, N202, K202, f209, f210, sz74⟩ (by decide) (by decide)
theorem d6_0 : decode prog_28_method_1_code 0 = .ok (.aload_n 0, 1) := by decide +kernel
theorem d6_1 : decode prog_28_method_1_code 1 = .ok (.invokespecial 1, 3) := by decide +kernel
theorem d6_4 : decode prog_28_method_1_code 4 = .ok (.aload_n 0, 1) := by decide +kernel
theorem d6_5 : decode prog_28_method_1_code 5 = .ok (.aload_n 2, 1) := by decide +kernel
theorem d6_6 : decode prog_28_method_1_code 6 = .ok (.putfield 7, 3) := by decide +kernel
theorem d6_9 : decode prog_28_method_1_code 9 = .ok (.aload_n 0, 1) := by decide +kernel
theorem d6_10 : decode prog_28_method_1_code 10 = .ok (.iload_n 1, 1) := by decide +kernel
theorem d6_11 : decode prog_28_method_1_code 11 = .ok (.newarray .int, 2) := by decide +kernel
theorem d6_13 : decode prog_28_method_1_code 13 = .ok (.putfield 13, 3) := by decide +kernel
theorem d6_16 : decode prog_28_method_1_code 16 = .ok (.aload_n 0, 1) := by decide +kernel
theorem d6_17 : decode prog_28_method_1_code 17 = .ok (.iload_n 1, 1) := by decide +kernel
theorem d6_18 : decode prog_28_method_1_code 18 = .ok (.newarray .int, 2) := by decide +kernel
theorem d6_20 : decode prog_28_method_1_code 20 = .ok (.putfield 17, 3) := by decide +kernel
theorem d6_23 : decode prog_28_method_1_code 23 = .ok (.aload_n 0, 1) := by decide +kernel
theorem d6_24 : decode prog_28_method_1_code 24 = .ok (.iload_n 1, 1) := by decide +kernel
theorem d6_25 : decode prog_28_method_1_code 25 = .ok (.newarray .int, 2) := by decide +kernel
theorem d6_27 : decode prog_28_method_1_code 27 = .ok (.putfield 20, 3) := by decide +kernel
theorem d6_30 : decode prog_28_method_1_code 30 = .ok (.aload_n 0, 1) := by decide +kernel
theorem d6_31 : decode prog_28_method_1_code 31 = .ok (.iload_n 1, 1) := by decide +kernel
theorem d6_32 : decode prog_28_method_1_code 32 = .ok (.newarray .int, 2) := by decide +kernel
theorem d6_34 : decode prog_28_method_1_code 34 = .ok (.putfield 23, 3) := by decide +kernel
theorem d6_37 : decode prog_28_method_1_code 37 = .ok (.iconst 0, 1) := by decide +kernel
theorem d6_38 : decode prog_28_method_1_code 38 = .ok (.istore_n 3, 1) := by decide +kernel
theorem d6_39 : decode prog_28_method_1_code 39 = .ok (.iload_n 3, 1) := by decide +kernel
theorem d6_40 : decode prog_28_method_1_code 40 = .ok (.iload_n 1, 1) := by decide +kernel
theorem d6_41 : decode prog_28_method_1_code 41 = .ok (.if_icmp .ge 37, 3) := by decide +kernel
theorem d6_44 : decode prog_28_method_1_code 44 = .ok (.aload_n 0, 1) := by decide +kernel
theorem d6_45 : decode prog_28_method_1_code 45 = .ok (.getfield 13, 3) := by decide +kernel
theorem d6_48 : decode prog_28_method_1_code 48 = .ok (.iload_n 3, 1) := by decide +kernel
theorem d6_49 : decode prog_28_method_1_code 49 = .ok (.iload_n 3, 1) := by decide +kernel
theorem d6_50 : decode prog_28_method_1_code 50 = .ok (.iastore, 1) := by decide +kernel
theorem d6_51 : decode prog_28_method_1_code 51 = .ok (.aload_n 0, 1) := by decide +kernel
theorem d6_52 : decode prog_28_method_1_code 52 = .ok (.getfield 17, 3) := by decide +kernel
theorem d6_55 : decode prog_28_method_1_code 55 = .ok (.iload_n 3, 1) := by decide +kernel
theorem d6_56 : decode prog_28_method_1_code 56 = .ok (.iconst 1, 1) := by decide +kernel
theorem d6_57 : decode prog_28_method_1_code 57 = .ok (.iastore, 1) := by decide +kernel
theorem d6_58 : decode prog_28_method_1_code 58 = .ok (.aload_n 0, 1) := by decide +kernel
theorem d6_59 : decode prog_28_method_1_code 59 = .ok (.getfield 20, 3) := by decide +kernel
theorem d6_62 : decode prog_28_method_1_code 62 = .ok (.iload_n 3, 1) := by decide +kernel
theorem d6_63 : decode prog_28_method_1_code 63 = .ok (.iconst (-1), 1) := by decide +kernel
theorem d6_64 : decode prog_28_method_1_code 64 = .ok (.iastore, 1) := by decide +kernel
theorem d6_65 : decode prog_28_method_1_code 65 = .ok (.aload_n 0, 1) := by decide +kernel
theorem d6_66 : decode prog_28_method_1_code 66 = .ok (.getfield 23, 3) := by decide +kernel
theorem d6_69 : decode prog_28_method_1_code 69 = .ok (.iload_n 3, 1) := by decide +kernel
theorem d6_70 : decode prog_28_method_1_code 70 = .ok (.iload_n 3, 1) := by decide +kernel
theorem d6_71 : decode prog_28_method_1_code 71 = .ok (.iastore, 1) := by decide +kernel
theorem d6_72 : decode prog_28_method_1_code 72 = .ok (.iinc 3 1, 3) := by decide +kernel
theorem d6_75 : decode prog_28_method_1_code 75 = .ok (.goto (-36), 3) := by decide +kernel
theorem d6_78 : decode prog_28_method_1_code 78 = .ok (.return_, 1) := by decide +kernel
theorem pn_com_example_tidegraph_tidegraph_amd64_LiveRanges : plainName "com/example/tidegraph/tidegraph/amd64/LiveRanges" = true := by first | (simp [plainName, overriddenIn]; done) | decide +kernel
theorem ef_6 (m : MethodId) (x0 : Addr) (x1 : Int32) (x2 : Addr) : entryFrame m #[(.ref x0), (.int x1), (.ref x2)] 4 = mkF m 0 #[.val (.ref x0), .val (.int x1), .val (.ref x2), .unset] [] := by first | (simp [entryFrame, mkF, argsToLocals, Value.category]; done) | rfl
def Q6 (Z : State) (a1 : Addr) (gv : Addr) (u0 : Value) (u1 : Value) (u2 : Value) (u3 : Value) (u4 : Value) (h0 : Heap) (n0 : Nat) (v : Option Value) (h : Heap) (L : List Loc) : Prop := ∃ (ap : Addr) (az : Addr) (an : Addr) (al : Addr) (kp : ClassId) (kz : ClassId) (kn : ClassId) (kl : ClassId), (v = none) ∧ (Fr n0 L) ∧ (Keep h0 h [a1]) ∧ (Fld Z h a1 "com/example/tidegraph/tidegraph/amd64/LiveRanges" "values" "Lcom/example/tidegraph/tidegraph/amd64/InterferenceGraph;" (.ref gv)) ∧ (Fld Z h a1 "com/example/tidegraph/tidegraph/amd64/LiveRanges" "parent" "[I" (.ref ap)) ∧ (Fld Z h a1 "com/example/tidegraph/tidegraph/amd64/LiveRanges" "size" "[I" (.ref az)) ∧ (Fld Z h a1 "com/example/tidegraph/tidegraph/amd64/LiveRanges" "next" "[I" (.ref an)) ∧ (Fld Z h a1 "com/example/tidegraph/tidegraph/amd64/LiveRanges" "last" "[I" (.ref al)) ∧ (Arv Z h ap kp .int (4 : Int32) (own_vl [0, 1, 2, 3]) (.int (0 : Int32))) ∧ (Arv Z h az kz .int (4 : Int32) (own_vl [1, 1, 1, 1]) (.int (0 : Int32))) ∧ (Arv Z h an kn .int (4 : Int32) (own_vn [0, 0, 0, 0]) (.int (0 : Int32))) ∧ (Arv Z h al kl .int (4 : Int32) (own_vl [0, 1, 2, 3]) (.int (0 : Int32))) ∧ (h0.size ≤ ap) ∧ (h0.size ≤ az) ∧ (h0.size ≤ an) ∧ (h0.size ≤ al) ∧ (ap ≠ az) ∧ (ap ≠ an) ∧ (ap ≠ al) ∧ (az ≠ an) ∧ (az ≠ al) ∧ (an ≠ al)
abbrev rom_6 : Room := { frames := 1, cells := 4, slots := 16, locals := 12 }
set_option maxRecDepth 65536 in
set_option maxHeartbeats 40000000 in
theorem rm6 (l : Launch) (Z : State) (a0 : Array Value) (hw : ∀ d ∈ tables_1, d.before a0 Z = true) (ws : List Jvm.Cond) (a1 : Addr) (gv : Addr) (u0 : Value) (u1 : Value) (u2 : Value) (u3 : Value) (u4 : Value) (h0 : Heap) (n0 : Nat) (Z0 : n0 ≤ h0.size) (F0_a1 : Exa Z h0 a1 "com/example/tidegraph/tidegraph/amd64/LiveRanges") (F1_a1_values : Fld Z h0 a1 "com/example/tidegraph/tidegraph/amd64/LiveRanges" "values" "Lcom/example/tidegraph/tidegraph/amd64/InterferenceGraph;" u0) (F2_a1_parent : Fld Z h0 a1 "com/example/tidegraph/tidegraph/amd64/LiveRanges" "parent" "[I" u1) (F3_a1_size : Fld Z h0 a1 "com/example/tidegraph/tidegraph/amd64/LiveRanges" "size" "[I" u2) (F4_a1_next : Fld Z h0 a1 "com/example/tidegraph/tidegraph/amd64/LiveRanges" "next" "[I" u3) (F5_a1_last : Fld Z h0 a1 "com/example/tidegraph/tidegraph/amd64/LiveRanges" "last" "[I" u4) (g_a1 : n0 ≤ a1) :
    MetFree l (⟨"com/example/tidegraph/tidegraph/amd64/LiveRanges", "<init>", "(ILcom/example/tidegraph/tidegraph/amd64/InterferenceGraph;)V"⟩ : MethodName) (head1 (Jvm.Cond.code (⟨"com/example/tidegraph/tidegraph/amd64/LiveRanges", "<init>", "(ILcom/example/tidegraph/tidegraph/amd64/InterferenceGraph;)V"⟩ : MethodName) prog_28_method_1_code 4 none :: ws) rom_6) (fun a U => a = #[(.ref a1), (.int (4 : Int32)), (.ref gv)] ∧ Z.Warmed39 U.vm ∧ U.heap = h0) (fun _ _ _ _ _ => True) (fun _ U o U' => ∃ v L, o = .returned v ∧ Q6 Z a1 gv u0 u1 u2 u3 u4 h0 n0 v U'.heap L ∧ FrameEnd U o U' L rom_6.cells rom_6.slots) := by
  refine MetFree.of_bodySF (plainFor_of_name pn_com_example_tidegraph_tidegraph_amd64_LiveRanges) hisR ?_
  intro p e s m args below meth c s₁ Bd hml0 hP hK
  obtain ⟨rfl, hZ, hh⟩ := hP
  have hx := Bd.exec
  have hby := Bd.bytes
  have hlk := Bd.notSynchronized
  have hml : c.maxLocals = 4 := hml0
  have hown : s.vm.findClass "com/example/tidegraph/tidegraph/amd64/LiveRanges" = some m.cls := findClass_of_methodNamed Bd.named
  have hnm := (name_of_methodNamed Bd.named Bd.method).1
  have X0 : Stand p l e rom_6 s m #[(.ref a1), (.int (4 : Int32)), (.ref gv)] below meth c s₁ [] 0 0 := Stand.of_body Bd
  have e0 : s₁.heap = h0 := by rw [← hh, Bd.state]; rfl
  have N0 := Fr.nil n0
  have K0 : Keep h0 h0 [a1] := Keep.refl _ _
  refine (?_ : OG p e below s (Q6 Z a1 gv u0 u1 u2 u3 u4 h0 n0) rom_6.cells rom_6.slots _)
  rw [ef_6]
  have s1 : ∀ tz, Steps p.tables e below (s₁.setTop (mkF m 1 #[.val (.ref a1), .val (.int (4 : Int32)), .val (.ref gv), .unset] [(.ref a1)])) tz → Steps p.tables e below (s₁.setTop (mkF m 0 #[.val (.ref a1), .val (.int (4 : Int32)), .val (.ref gv), .unset] [])) tz := by
    intro tz kz
    refine XS.aloadN X0.here hx rfl (hb hby d6_0) rfl rfl ?_
    exact kz
  refine OG.step s1 ?_
  obtain ⟨T2, X2, e2, st2⟩ := initO X0 hx hZ hown (hw _ (List.mem_of_getElem? (i := 45) rfl)) (hw _ (List.mem_of_getElem? (i := 8) rfl)) (hw _ (List.mem_of_getElem? (i := 9) rfl)) e0 (g := (mkF m 1 #[.val (.ref a1), .val (.int (4 : Int32)), .val (.ref gv), .unset] [(.ref a1)])) rfl (by rw [hml]; rfl) rfl (hb hby d6_1) (by decide) (W := 0) (by show 2 * 0 + _ ≤ _; exact Nat.le_of_eq rfl) (by decide)
  refine OG.step st2 ?_
  show OG _ _ _ _ _ _ _ (T2.setTop (mkF m 4 #[.val (.ref a1), .val (.int (4 : Int32)), .val (.ref gv), .unset] []))
  have s3 : ∀ tz, Steps p.tables e below (T2.setTop (mkF m 6 #[.val (.ref a1), .val (.int (4 : Int32)), .val (.ref gv), .unset] [(.ref gv), (.ref a1)])) tz → Steps p.tables e below (T2.setTop (mkF m 4 #[.val (.ref a1), .val (.int (4 : Int32)), .val (.ref gv), .unset] [])) tz := by
    intro tz kz
    refine XS.aloadN X2.here hx rfl (hb hby d6_4) rfl rfl ?_
    refine XS.aloadN X2.here hx rfl (hb hby d6_5) rfl rfl ?_
    exact kz
  refine OG.step s3 ?_
  obtain ⟨T4, h4, X4, e4, W4, st4⟩ := putF X2 hx hZ hown (host := "") (Or.inl (hw _ (List.mem_of_getElem? (i := 46) rfl))) Via.refl e2 F1_a1_values F0_a1 (Or.inr ⟨(hw _ (List.mem_of_getElem? (i := 47) rfl)), rfl, hnm⟩) (hw _ (List.mem_of_getElem? (i := 40) rfl)) (ty := (.object "com/example/tidegraph/tidegraph/amd64/InterferenceGraph")) (by decide) rfl rfl (g := (mkF m 6 #[.val (.ref a1), .val (.int (4 : Int32)), .val (.ref gv), .unset] [(.ref gv), (.ref a1)])) rfl rfl (hb hby d6_6)
  refine OG.step st4 ?_
  have fw4 := F1_a1_values.same W4
  have f5 := F0_a1.wr W4
  have f6 := F2_a1_parent.other W4 (Or.inr (slot_ne (Or.inr (hw _ (List.mem_of_getElem? (i := 49) rfl))) (Or.inr (hw _ (List.mem_of_getElem? (i := 47) rfl))) (by decide) (t := (.array .int)) (t' := (.object "com/example/tidegraph/tidegraph/amd64/InterferenceGraph")) (by decide) (by decide)))
  have f7 := F3_a1_size.other W4 (Or.inr (slot_ne (Or.inr (hw _ (List.mem_of_getElem? (i := 51) rfl))) (Or.inr (hw _ (List.mem_of_getElem? (i := 47) rfl))) (by decide) (t := (.array .int)) (t' := (.object "com/example/tidegraph/tidegraph/amd64/InterferenceGraph")) (by decide) (by decide)))
  have f8 := F4_a1_next.other W4 (Or.inr (slot_ne (Or.inr (hw _ (List.mem_of_getElem? (i := 53) rfl))) (Or.inr (hw _ (List.mem_of_getElem? (i := 47) rfl))) (by decide) (t := (.array .int)) (t' := (.object "com/example/tidegraph/tidegraph/amd64/InterferenceGraph")) (by decide) (by decide)))
  have f9 := F5_a1_last.other W4 (Or.inr (slot_ne (Or.inr (hw _ (List.mem_of_getElem? (i := 55) rfl))) (Or.inr (hw _ (List.mem_of_getElem? (i := 47) rfl))) (by decide) (t := (.array .int)) (t' := (.object "com/example/tidegraph/tidegraph/amd64/InterferenceGraph")) (by decide) (by decide)))
  have K4 := K0.wr W4 (Or.inl (List.mem_of_getElem? (i := 0) rfl))
  have N4 := Fr.snoc X4 N0 g_a1
  obtain ⟨Lz10, X4, N4⟩ : ∃ Lz, Stand p l e rom_6 s m #[(.ref a1), (.int (4 : Int32)), (.ref gv)] below meth c T4 Lz 0 0 ∧ Fr n0 Lz := ⟨_, X4, N4⟩
  show OG _ _ _ _ _ _ _ (T4.setTop (mkF m 9 #[.val (.ref a1), .val (.int (4 : Int32)), .val (.ref gv), .unset] []))
  have s11 : ∀ tz, Steps p.tables e below (T4.setTop (mkF m 11 #[.val (.ref a1), .val (.int (4 : Int32)), .val (.ref gv), .unset] [(.int (4 : Int32)), (.ref a1)])) tz → Steps p.tables e below (T4.setTop (mkF m 9 #[.val (.ref a1), .val (.int (4 : Int32)), .val (.ref gv), .unset] [])) tz := by
    intro tz kz
    refine XS.aloadN X4.here hx rfl (hb hby d6_9) rfl rfl ?_
    refine XS.iloadN X4.here hx rfl (hb hby d6_10) rfl ?_
    exact kz
  refine OG.step s11 ?_
  obtain ⟨T12, h12, k12, X12, e12, E12, A12, st12⟩ := newP X4 hx hZ (hw _ (List.mem_of_getElem? (i := 10) rfl)) e4 (g := (mkF m 11 #[.val (.ref a1), .val (.int (4 : Int32)), .val (.ref gv), .unset] [(.int (4 : Int32)), (.ref a1)])) rfl (hb hby d6_11) rfl (by decide) (cap := 4) (by decide) (by decide) (by decide) (by decide)
  obtain ⟨b12, g12⟩ : ∃ z, z = h4.size := ⟨_, rfl⟩
  rw [← g12] at A12 st12
  have sz12 : h0.size ≤ b12 := Nat.le_trans K4.1 (Nat.le_of_eq g12.symm)
  have ge12 : n0 ≤ b12 := Nat.le_trans Z0 sz12
  have ne12_a1 : a1 ≠ b12 := Nat.ne_of_lt (Nat.lt_of_lt_of_le f5.lt (Nat.le_of_eq g12.symm))
  refine OG.step st12 ?_
  have f13 := f5.ext E12
  have f14 := f6.ext E12
  have f15 := f7.ext E12
  have f16 := f8.ext E12
  have f17 := f9.ext E12
  have f18 := fw4.ext E12
  have V12 : Arv Z h12 b12 k12 .int (4 : Int32) [(.int (0 : Int32)), (.int (0 : Int32)), (.int (0 : Int32)), (.int (0 : Int32))] (.int (0 : Int32)) := (Arv.new A12 (by decide)).pad (pad_rep [] (.int (0 : Int32)) 4)
  have K12 := K4.ext E12
  show OG _ _ _ _ _ _ _ (T12.setTop (mkF m 13 #[.val (.ref a1), .val (.int (4 : Int32)), .val (.ref gv), .unset] [(.ref b12), (.ref a1)]))
  obtain ⟨T19, h19, X19, e19, W19, st19⟩ := putF X12 hx hZ hown (host := "") (Or.inl (hw _ (List.mem_of_getElem? (i := 48) rfl))) Via.refl e12 f14 f13 (Or.inr ⟨(hw _ (List.mem_of_getElem? (i := 49) rfl)), rfl, hnm⟩) (hw _ (List.mem_of_getElem? (i := 40) rfl)) (ty := (.array .int)) (by decide) rfl rfl (g := (mkF m 13 #[.val (.ref a1), .val (.int (4 : Int32)), .val (.ref gv), .unset] [(.ref b12), (.ref a1)])) rfl rfl (hb hby d6_13)
  refine OG.step st19 ?_
  have fw19 := f14.same W19
  have f20 := f13.wr W19
  have f21 := f15.other W19 (Or.inr (slot_ne (Or.inr (hw _ (List.mem_of_getElem? (i := 51) rfl))) (Or.inr (hw _ (List.mem_of_getElem? (i := 49) rfl))) (by decide) (t := (.array .int)) (t' := (.array .int)) (by decide) (by decide)))
  have f22 := f16.other W19 (Or.inr (slot_ne (Or.inr (hw _ (List.mem_of_getElem? (i := 53) rfl))) (Or.inr (hw _ (List.mem_of_getElem? (i := 49) rfl))) (by decide) (t := (.array .int)) (t' := (.array .int)) (by decide) (by decide)))
  have f23 := f17.other W19 (Or.inr (slot_ne (Or.inr (hw _ (List.mem_of_getElem? (i := 55) rfl))) (Or.inr (hw _ (List.mem_of_getElem? (i := 49) rfl))) (by decide) (t := (.array .int)) (t' := (.array .int)) (by decide) (by decide)))
  have f24 := f18.other W19 (Or.inr (slot_ne (Or.inr (hw _ (List.mem_of_getElem? (i := 47) rfl))) (Or.inr (hw _ (List.mem_of_getElem? (i := 49) rfl))) (by decide) (t := (.object "com/example/tidegraph/tidegraph/amd64/InterferenceGraph")) (t' := (.array .int)) (by decide) (by decide)))
  have f25 := V12.other W19 (Ne.symm ne12_a1)
  have K19 := K12.wr W19 (Or.inl (List.mem_of_getElem? (i := 0) rfl))
  have N19 := Fr.snoc X19 N4 g_a1
  obtain ⟨Lz26, X19, N19⟩ : ∃ Lz, Stand p l e rom_6 s m #[(.ref a1), (.int (4 : Int32)), (.ref gv)] below meth c T19 Lz 1 4 ∧ Fr n0 Lz := ⟨_, X19, N19⟩
  show OG _ _ _ _ _ _ _ (T19.setTop (mkF m 16 #[.val (.ref a1), .val (.int (4 : Int32)), .val (.ref gv), .unset] []))
  have s27 : ∀ tz, Steps p.tables e below (T19.setTop (mkF m 18 #[.val (.ref a1), .val (.int (4 : Int32)), .val (.ref gv), .unset] [(.int (4 : Int32)), (.ref a1)])) tz → Steps p.tables e below (T19.setTop (mkF m 16 #[.val (.ref a1), .val (.int (4 : Int32)), .val (.ref gv), .unset] [])) tz := by
    intro tz kz
    refine XS.aloadN X19.here hx rfl (hb hby d6_16) rfl rfl ?_
    refine XS.iloadN X19.here hx rfl (hb hby d6_17) rfl ?_
    exact kz
  refine OG.step s27 ?_
  obtain ⟨T28, h28, k28, X28, e28, E28, A28, st28⟩ := newP X19 hx hZ (hw _ (List.mem_of_getElem? (i := 10) rfl)) e19 (g := (mkF m 18 #[.val (.ref a1), .val (.int (4 : Int32)), .val (.ref gv), .unset] [(.int (4 : Int32)), (.ref a1)])) rfl (hb hby d6_18) rfl (by decide) (cap := 4) (by decide) (by decide) (by decide) (by decide)
  obtain ⟨b28, g28⟩ : ∃ z, z = h19.size := ⟨_, rfl⟩
  rw [← g28] at A28 st28
  have sz28 : h0.size ≤ b28 := Nat.le_trans K19.1 (Nat.le_of_eq g28.symm)
  have ge28 : n0 ≤ b28 := Nat.le_trans Z0 sz28
  have ne28_a1 : a1 ≠ b28 := Nat.ne_of_lt (Nat.lt_of_lt_of_le f20.lt (Nat.le_of_eq g28.symm))
  have ne28_b12 : b12 ≠ b28 := Nat.ne_of_lt (Nat.lt_of_lt_of_le f25.lt (Nat.le_of_eq g28.symm))
  refine OG.step st28 ?_
  have f29 := f20.ext E28
  have f30 := f21.ext E28
  have f31 := f22.ext E28
  have f32 := f23.ext E28
  have f33 := f24.ext E28
  have f34 := f25.ext E28
  have f35 := fw19.ext E28
  have V28 : Arv Z h28 b28 k28 .int (4 : Int32) [(.int (0 : Int32)), (.int (0 : Int32)), (.int (0 : Int32)), (.int (0 : Int32))] (.int (0 : Int32)) := (Arv.new A28 (by decide)).pad (pad_rep [] (.int (0 : Int32)) 4)
  have K28 := K19.ext E28
  show OG _ _ _ _ _ _ _ (T28.setTop (mkF m 20 #[.val (.ref a1), .val (.int (4 : Int32)), .val (.ref gv), .unset] [(.ref b28), (.ref a1)]))
  obtain ⟨T36, h36, X36, e36, W36, st36⟩ := putF X28 hx hZ hown (host := "") (Or.inl (hw _ (List.mem_of_getElem? (i := 50) rfl))) Via.refl e28 f30 f29 (Or.inr ⟨(hw _ (List.mem_of_getElem? (i := 51) rfl)), rfl, hnm⟩) (hw _ (List.mem_of_getElem? (i := 40) rfl)) (ty := (.array .int)) (by decide) rfl rfl (g := (mkF m 20 #[.val (.ref a1), .val (.int (4 : Int32)), .val (.ref gv), .unset] [(.ref b28), (.ref a1)])) rfl rfl (hb hby d6_20)
  refine OG.step st36 ?_
  have fw36 := f30.same W36
  have f37 := f29.wr W36
  have f38 := f31.other W36 (Or.inr (slot_ne (Or.inr (hw _ (List.mem_of_getElem? (i := 53) rfl))) (Or.inr (hw _ (List.mem_of_getElem? (i := 51) rfl))) (by decide) (t := (.array .int)) (t' := (.array .int)) (by decide) (by decide)))
  have f39 := f32.other W36 (Or.inr (slot_ne (Or.inr (hw _ (List.mem_of_getElem? (i := 55) rfl))) (Or.inr (hw _ (List.mem_of_getElem? (i := 51) rfl))) (by decide) (t := (.array .int)) (t' := (.array .int)) (by decide) (by decide)))
  have f40 := f33.other W36 (Or.inr (slot_ne (Or.inr (hw _ (List.mem_of_getElem? (i := 47) rfl))) (Or.inr (hw _ (List.mem_of_getElem? (i := 51) rfl))) (by decide) (t := (.object "com/example/tidegraph/tidegraph/amd64/InterferenceGraph")) (t' := (.array .int)) (by decide) (by decide)))
  have f41 := f34.other W36 (Ne.symm ne12_a1)
  have f42 := f35.other W36 (Or.inr (slot_ne (Or.inr (hw _ (List.mem_of_getElem? (i := 49) rfl))) (Or.inr (hw _ (List.mem_of_getElem? (i := 51) rfl))) (by decide) (t := (.array .int)) (t' := (.array .int)) (by decide) (by decide)))
  have f43 := V28.other W36 (Ne.symm ne28_a1)
  have K36 := K28.wr W36 (Or.inl (List.mem_of_getElem? (i := 0) rfl))
  have N36 := Fr.snoc X36 N19 g_a1
  obtain ⟨Lz44, X36, N36⟩ : ∃ Lz, Stand p l e rom_6 s m #[(.ref a1), (.int (4 : Int32)), (.ref gv)] below meth c T36 Lz 2 8 ∧ Fr n0 Lz := ⟨_, X36, N36⟩
  show OG _ _ _ _ _ _ _ (T36.setTop (mkF m 23 #[.val (.ref a1), .val (.int (4 : Int32)), .val (.ref gv), .unset] []))
  have s45 : ∀ tz, Steps p.tables e below (T36.setTop (mkF m 25 #[.val (.ref a1), .val (.int (4 : Int32)), .val (.ref gv), .unset] [(.int (4 : Int32)), (.ref a1)])) tz → Steps p.tables e below (T36.setTop (mkF m 23 #[.val (.ref a1), .val (.int (4 : Int32)), .val (.ref gv), .unset] [])) tz := by
    intro tz kz
    refine XS.aloadN X36.here hx rfl (hb hby d6_23) rfl rfl ?_
    refine XS.iloadN X36.here hx rfl (hb hby d6_24) rfl ?_
    exact kz
  refine OG.step s45 ?_
  obtain ⟨T46, h46, k46, X46, e46, E46, A46, st46⟩ := newP X36 hx hZ (hw _ (List.mem_of_getElem? (i := 10) rfl)) e36 (g := (mkF m 25 #[.val (.ref a1), .val (.int (4 : Int32)), .val (.ref gv), .unset] [(.int (4 : Int32)), (.ref a1)])) rfl (hb hby d6_25) rfl (by decide) (cap := 4) (by decide) (by decide) (by decide) (by decide)
  obtain ⟨b46, g46⟩ : ∃ z, z = h36.size := ⟨_, rfl⟩
  rw [← g46] at A46 st46
  have sz46 : h0.size ≤ b46 := Nat.le_trans K36.1 (Nat.le_of_eq g46.symm)
  have ge46 : n0 ≤ b46 := Nat.le_trans Z0 sz46
  have ne46_a1 : a1 ≠ b46 := Nat.ne_of_lt (Nat.lt_of_lt_of_le f37.lt (Nat.le_of_eq g46.symm))
  have ne46_b12 : b12 ≠ b46 := Nat.ne_of_lt (Nat.lt_of_lt_of_le f41.lt (Nat.le_of_eq g46.symm))
  have ne46_b28 : b28 ≠ b46 := Nat.ne_of_lt (Nat.lt_of_lt_of_le f43.lt (Nat.le_of_eq g46.symm))
  refine OG.step st46 ?_
  have f47 := f37.ext E46
  have f48 := f38.ext E46
  have f49 := f39.ext E46
  have f50 := f40.ext E46
  have f51 := f41.ext E46
  have f52 := f42.ext E46
  have f53 := f43.ext E46
  have f54 := fw36.ext E46
  have V46 : Arv Z h46 b46 k46 .int (4 : Int32) [(.int (0 : Int32)), (.int (0 : Int32)), (.int (0 : Int32)), (.int (0 : Int32))] (.int (0 : Int32)) := (Arv.new A46 (by decide)).pad (pad_rep [] (.int (0 : Int32)) 4)
  have K46 := K36.ext E46
  show OG _ _ _ _ _ _ _ (T46.setTop (mkF m 27 #[.val (.ref a1), .val (.int (4 : Int32)), .val (.ref gv), .unset] [(.ref b46), (.ref a1)]))
  obtain ⟨T55, h55, X55, e55, W55, st55⟩ := putF X46 hx hZ hown (host := "") (Or.inl (hw _ (List.mem_of_getElem? (i := 52) rfl))) Via.refl e46 f48 f47 (Or.inr ⟨(hw _ (List.mem_of_getElem? (i := 53) rfl)), rfl, hnm⟩) (hw _ (List.mem_of_getElem? (i := 40) rfl)) (ty := (.array .int)) (by decide) rfl rfl (g := (mkF m 27 #[.val (.ref a1), .val (.int (4 : Int32)), .val (.ref gv), .unset] [(.ref b46), (.ref a1)])) rfl rfl (hb hby d6_27)
  refine OG.step st55 ?_
  have fw55 := f48.same W55
  have f56 := f47.wr W55
  have f57 := f49.other W55 (Or.inr (slot_ne (Or.inr (hw _ (List.mem_of_getElem? (i := 55) rfl))) (Or.inr (hw _ (List.mem_of_getElem? (i := 53) rfl))) (by decide) (t := (.array .int)) (t' := (.array .int)) (by decide) (by decide)))
  have f58 := f50.other W55 (Or.inr (slot_ne (Or.inr (hw _ (List.mem_of_getElem? (i := 47) rfl))) (Or.inr (hw _ (List.mem_of_getElem? (i := 53) rfl))) (by decide) (t := (.object "com/example/tidegraph/tidegraph/amd64/InterferenceGraph")) (t' := (.array .int)) (by decide) (by decide)))
  have f59 := f51.other W55 (Ne.symm ne12_a1)
  have f60 := f52.other W55 (Or.inr (slot_ne (Or.inr (hw _ (List.mem_of_getElem? (i := 49) rfl))) (Or.inr (hw _ (List.mem_of_getElem? (i := 53) rfl))) (by decide) (t := (.array .int)) (t' := (.array .int)) (by decide) (by decide)))
  have f61 := f53.other W55 (Ne.symm ne28_a1)
  have f62 := f54.other W55 (Or.inr (slot_ne (Or.inr (hw _ (List.mem_of_getElem? (i := 51) rfl))) (Or.inr (hw _ (List.mem_of_getElem? (i := 53) rfl))) (by decide) (t := (.array .int)) (t' := (.array .int)) (by decide) (by decide)))
  have f63 := V46.other W55 (Ne.symm ne46_a1)
  have K55 := K46.wr W55 (Or.inl (List.mem_of_getElem? (i := 0) rfl))
  have N55 := Fr.snoc X55 N36 g_a1
  obtain ⟨Lz64, X55, N55⟩ : ∃ Lz, Stand p l e rom_6 s m #[(.ref a1), (.int (4 : Int32)), (.ref gv)] below meth c T55 Lz 3 12 ∧ Fr n0 Lz := ⟨_, X55, N55⟩
  show OG _ _ _ _ _ _ _ (T55.setTop (mkF m 30 #[.val (.ref a1), .val (.int (4 : Int32)), .val (.ref gv), .unset] []))
  have s65 : ∀ tz, Steps p.tables e below (T55.setTop (mkF m 32 #[.val (.ref a1), .val (.int (4 : Int32)), .val (.ref gv), .unset] [(.int (4 : Int32)), (.ref a1)])) tz → Steps p.tables e below (T55.setTop (mkF m 30 #[.val (.ref a1), .val (.int (4 : Int32)), .val (.ref gv), .unset] [])) tz := by
    intro tz kz
    refine XS.aloadN X55.here hx rfl (hb hby d6_30) rfl rfl ?_
    refine XS.iloadN X55.here hx rfl (hb hby d6_31) rfl ?_
    exact kz
  refine OG.step s65 ?_
  obtain ⟨T66, h66, k66, X66, e66, E66, A66, st66⟩ := newP X55 hx hZ (hw _ (List.mem_of_getElem? (i := 10) rfl)) e55 (g := (mkF m 32 #[.val (.ref a1), .val (.int (4 : Int32)), .val (.ref gv), .unset] [(.int (4 : Int32)), (.ref a1)])) rfl (hb hby d6_32) rfl (by decide) (cap := 4) (by decide) (by decide) (by decide) (by decide)
  obtain ⟨b66, g66⟩ : ∃ z, z = h55.size := ⟨_, rfl⟩
  rw [← g66] at A66 st66
  have sz66 : h0.size ≤ b66 := Nat.le_trans K55.1 (Nat.le_of_eq g66.symm)
  have ge66 : n0 ≤ b66 := Nat.le_trans Z0 sz66
  have ne66_a1 : a1 ≠ b66 := Nat.ne_of_lt (Nat.lt_of_lt_of_le f56.lt (Nat.le_of_eq g66.symm))
  have ne66_b12 : b12 ≠ b66 := Nat.ne_of_lt (Nat.lt_of_lt_of_le f59.lt (Nat.le_of_eq g66.symm))
  have ne66_b28 : b28 ≠ b66 := Nat.ne_of_lt (Nat.lt_of_lt_of_le f61.lt (Nat.le_of_eq g66.symm))
  have ne66_b46 : b46 ≠ b66 := Nat.ne_of_lt (Nat.lt_of_lt_of_le f63.lt (Nat.le_of_eq g66.symm))
  refine OG.step st66 ?_
  have f67 := f56.ext E66
  have f68 := f57.ext E66
  have f69 := f58.ext E66
  have f70 := f59.ext E66
  have f71 := f60.ext E66
  have f72 := f61.ext E66
  have f73 := f62.ext E66
  have f74 := f63.ext E66
  have f75 := fw55.ext E66
  have V66 : Arv Z h66 b66 k66 .int (4 : Int32) [(.int (0 : Int32)), (.int (0 : Int32)), (.int (0 : Int32)), (.int (0 : Int32))] (.int (0 : Int32)) := (Arv.new A66 (by decide)).pad (pad_rep [] (.int (0 : Int32)) 4)
  have K66 := K55.ext E66
  show OG _ _ _ _ _ _ _ (T66.setTop (mkF m 34 #[.val (.ref a1), .val (.int (4 : Int32)), .val (.ref gv), .unset] [(.ref b66), (.ref a1)]))
  obtain ⟨T76, h76, X76, e76, W76, st76⟩ := putF X66 hx hZ hown (host := "") (Or.inl (hw _ (List.mem_of_getElem? (i := 54) rfl))) Via.refl e66 f68 f67 (Or.inr ⟨(hw _ (List.mem_of_getElem? (i := 55) rfl)), rfl, hnm⟩) (hw _ (List.mem_of_getElem? (i := 40) rfl)) (ty := (.array .int)) (by decide) rfl rfl (g := (mkF m 34 #[.val (.ref a1), .val (.int (4 : Int32)), .val (.ref gv), .unset] [(.ref b66), (.ref a1)])) rfl rfl (hb hby d6_34)
  refine OG.step st76 ?_
  have fw76 := f68.same W76
  have f77 := f67.wr W76
  have f78 := f69.other W76 (Or.inr (slot_ne (Or.inr (hw _ (List.mem_of_getElem? (i := 47) rfl))) (Or.inr (hw _ (List.mem_of_getElem? (i := 55) rfl))) (by decide) (t := (.object "com/example/tidegraph/tidegraph/amd64/InterferenceGraph")) (t' := (.array .int)) (by decide) (by decide)))
  have f79 := f70.other W76 (Ne.symm ne12_a1)
  have f80 := f71.other W76 (Or.inr (slot_ne (Or.inr (hw _ (List.mem_of_getElem? (i := 49) rfl))) (Or.inr (hw _ (List.mem_of_getElem? (i := 55) rfl))) (by decide) (t := (.array .int)) (t' := (.array .int)) (by decide) (by decide)))
  have f81 := f72.other W76 (Ne.symm ne28_a1)
  have f82 := f73.other W76 (Or.inr (slot_ne (Or.inr (hw _ (List.mem_of_getElem? (i := 51) rfl))) (Or.inr (hw _ (List.mem_of_getElem? (i := 55) rfl))) (by decide) (t := (.array .int)) (t' := (.array .int)) (by decide) (by decide)))
  have f83 := f74.other W76 (Ne.symm ne46_a1)
  have f84 := f75.other W76 (Or.inr (slot_ne (Or.inr (hw _ (List.mem_of_getElem? (i := 53) rfl))) (Or.inr (hw _ (List.mem_of_getElem? (i := 55) rfl))) (by decide) (t := (.array .int)) (t' := (.array .int)) (by decide) (by decide)))
  have f85 := V66.other W76 (Ne.symm ne66_a1)
  have K76 := K66.wr W76 (Or.inl (List.mem_of_getElem? (i := 0) rfl))
  have N76 := Fr.snoc X76 N55 g_a1
  obtain ⟨Lz86, X76, N76⟩ : ∃ Lz, Stand p l e rom_6 s m #[(.ref a1), (.int (4 : Int32)), (.ref gv)] below meth c T76 Lz 4 16 ∧ Fr n0 Lz := ⟨_, X76, N76⟩
  show OG _ _ _ _ _ _ _ (T76.setTop (mkF m 37 #[.val (.ref a1), .val (.int (4 : Int32)), .val (.ref gv), .unset] []))
  have s87 : ∀ tz, Steps p.tables e below (T76.setTop (mkF m 45 #[.val (.ref a1), .val (.int (4 : Int32)), .val (.ref gv), .val (.int (0 : Int32))] [(.ref a1)])) tz → Steps p.tables e below (T76.setTop (mkF m 37 #[.val (.ref a1), .val (.int (4 : Int32)), .val (.ref gv), .unset] [])) tz := by
    intro tz kz
    refine XS.iconst X76.here hx rfl (hb hby d6_37) ?_
    refine XS.istoreN X76.here hx rfl (hb hby d6_38) rfl (l' := #[.val (.ref a1), .val (.int (4 : Int32)), .val (.ref gv), .val (.int (0 : Int32))]) rfl ?_
    refine XS.iloadN X76.here hx rfl (hb hby d6_39) rfl ?_
    refine XS.iloadN X76.here hx rfl (hb hby d6_40) rfl ?_
    refine XS.icmpNo X76.here hx rfl (hb hby d6_41) rfl (tlt (by decide)).2.1 ?_
    show Steps p.tables e below (T76.setTop (mkF m 44 #[.val (.ref a1), .val (.int (4 : Int32)), .val (.ref gv), .val (.int (0 : Int32))] [])) _
    refine XS.aloadN X76.here hx rfl (hb hby d6_44) rfl rfl ?_
    exact kz
  refine OG.step s87 ?_
  obtain ⟨T88, X88, e88, st88⟩ := getF X76 hx hZ hown (host := "") (Or.inl (hw _ (List.mem_of_getElem? (i := 48) rfl))) Via.refl e76 f80 (g := (mkF m 45 #[.val (.ref a1), .val (.int (4 : Int32)), .val (.ref gv), .val (.int (0 : Int32))] [(.ref a1)])) rfl rfl (hb hby d6_45)
  refine OG.step st88 ?_
  show OG _ _ _ _ _ _ _ (T88.setTop (mkF m 48 #[.val (.ref a1), .val (.int (4 : Int32)), .val (.ref gv), .val (.int (0 : Int32))] [(.ref b12)]))
  have s89 : ∀ tz, Steps p.tables e below (T88.setTop (mkF m 50 #[.val (.ref a1), .val (.int (4 : Int32)), .val (.ref gv), .val (.int (0 : Int32))] [(.int (0 : Int32)), (.int (0 : Int32)), (.ref b12)])) tz → Steps p.tables e below (T88.setTop (mkF m 48 #[.val (.ref a1), .val (.int (4 : Int32)), .val (.ref gv), .val (.int (0 : Int32))] [(.ref b12)])) tz := by
    intro tz kz
    refine XS.iloadN X88.here hx rfl (hb hby d6_48) rfl ?_
    refine XS.iloadN X88.here hx rfl (hb hby d6_49) rfl ?_
    exact kz
  refine OG.step s89 ?_
  have av90 := f79
  obtain ⟨cl90, Ar90, qa_90, Sa_90, Nn_90, Ha_90, Ga_90⟩ := av90
  have hin90 : ¬ ((0 : Int32) < 0 ∨ cl90.slots.size ≤ ((0 : Int32)).toNatClampNeg) := inb_of Sa_90 ⟨(by decide), (by decide)⟩
  obtain ⟨T91, h91, X91, e91, W91, st91⟩ := stI X88 hx hZ e88 Ar90 (j := (0 : Int32)) hin90 (g := (mkF m 50 #[.val (.ref a1), .val (.int (4 : Int32)), .val (.ref gv), .val (.int (0 : Int32))] [(.int (0 : Int32)), (.int (0 : Int32)), (.ref b12)])) rfl rfl (hb hby d6_50)
  refine OG.step st91 ?_
  have Va91 := Arv.set Ar90 qa_90 Sa_90 Nn_90 Ha_90 Ga_90 rfl W91 (0) (by decide) (Nat.le_of_ble_eq_true rfl)
  have V91 : Arv Z h91 b12 k12 .int (4 : Int32) [(.int (0 : Int32)), (.int (0 : Int32)), (.int (0 : Int32)), (.int (0 : Int32))] (.int (0 : Int32)) := Va91
  have f92 := f77.wr W91
  have f93 := f78.other W91 (Or.inl ne12_a1)
  have f94 := f80.other W91 (Or.inl ne12_a1)
  have f95 := f81.other W91 (Ne.symm ne28_b12)
  have f96 := f82.other W91 (Or.inl ne12_a1)
  have f97 := f83.other W91 (Ne.symm ne46_b12)
  have f98 := f84.other W91 (Or.inl ne12_a1)
  have f99 := f85.other W91 (Ne.symm ne66_b12)
  have f100 := fw76.other W91 (Or.inl ne12_a1)
  have K91 := K76.wr W91 (Or.inr sz12)
  have N91 := Fr.snoc X91 N76 ge12
  obtain ⟨Lz101, X91, N91⟩ : ∃ Lz, Stand p l e rom_6 s m #[(.ref a1), (.int (4 : Int32)), (.ref gv)] below meth c T91 Lz 4 16 ∧ Fr n0 Lz := ⟨_, X91, N91⟩
  show OG _ _ _ _ _ _ _ (T91.setTop (mkF m 51 #[.val (.ref a1), .val (.int (4 : Int32)), .val (.ref gv), .val (.int (0 : Int32))] []))
  have s102 : ∀ tz, Steps p.tables e below (T91.setTop (mkF m 52 #[.val (.ref a1), .val (.int (4 : Int32)), .val (.ref gv), .val (.int (0 : Int32))] [(.ref a1)])) tz → Steps p.tables e below (T91.setTop (mkF m 51 #[.val (.ref a1), .val (.int (4 : Int32)), .val (.ref gv), .val (.int (0 : Int32))] [])) tz := by
    intro tz kz
    refine XS.aloadN X91.here hx rfl (hb hby d6_51) rfl rfl ?_
    exact kz
  refine OG.step s102 ?_
  obtain ⟨T103, X103, e103, st103⟩ := getF X91 hx hZ hown (host := "") (Or.inl (hw _ (List.mem_of_getElem? (i := 50) rfl))) Via.refl e91 f96 (g := (mkF m 52 #[.val (.ref a1), .val (.int (4 : Int32)), .val (.ref gv), .val (.int (0 : Int32))] [(.ref a1)])) rfl rfl (hb hby d6_52)
  refine OG.step st103 ?_
  show OG _ _ _ _ _ _ _ (T103.setTop (mkF m 55 #[.val (.ref a1), .val (.int (4 : Int32)), .val (.ref gv), .val (.int (0 : Int32))] [(.ref b28)]))
  have s104 : ∀ tz, Steps p.tables e below (T103.setTop (mkF m 57 #[.val (.ref a1), .val (.int (4 : Int32)), .val (.ref gv), .val (.int (0 : Int32))] [(.int (1 : Int32)), (.int (0 : Int32)), (.ref b28)])) tz → Steps p.tables e below (T103.setTop (mkF m 55 #[.val (.ref a1), .val (.int (4 : Int32)), .val (.ref gv), .val (.int (0 : Int32))] [(.ref b28)])) tz := by
    intro tz kz
    refine XS.iloadN X103.here hx rfl (hb hby d6_55) rfl ?_
    refine XS.iconst X103.here hx rfl (hb hby d6_56) ?_
    exact kz
  refine OG.step s104 ?_
  have av105 := f95
  obtain ⟨cl105, Ar105, qa_105, Sa_105, Nn_105, Ha_105, Ga_105⟩ := av105
  have hin105 : ¬ ((0 : Int32) < 0 ∨ cl105.slots.size ≤ ((0 : Int32)).toNatClampNeg) := inb_of Sa_105 ⟨(by decide), (by decide)⟩
  obtain ⟨T106, h106, X106, e106, W106, st106⟩ := stI X103 hx hZ e103 Ar105 (j := (0 : Int32)) hin105 (g := (mkF m 57 #[.val (.ref a1), .val (.int (4 : Int32)), .val (.ref gv), .val (.int (0 : Int32))] [(.int (1 : Int32)), (.int (0 : Int32)), (.ref b28)])) rfl rfl (hb hby d6_57)
  refine OG.step st106 ?_
  have Va106 := Arv.set Ar105 qa_105 Sa_105 Nn_105 Ha_105 Ga_105 rfl W106 (0) (by decide) (Nat.le_of_ble_eq_true rfl)
  have V106 : Arv Z h106 b28 k28 .int (4 : Int32) [(.int (1 : Int32)), (.int (0 : Int32)), (.int (0 : Int32)), (.int (0 : Int32))] (.int (0 : Int32)) := Va106
  have f107 := f92.wr W106
  have f108 := f93.other W106 (Or.inl ne28_a1)
  have f109 := f94.other W106 (Or.inl ne28_a1)
  have f110 := f96.other W106 (Or.inl ne28_a1)
  have f111 := f97.other W106 (Ne.symm ne46_b28)
  have f112 := f98.other W106 (Or.inl ne28_a1)
  have f113 := f99.other W106 (Ne.symm ne66_b28)
  have f114 := f100.other W106 (Or.inl ne28_a1)
  have f115 := V91.other W106 ne28_b12
  have K106 := K91.wr W106 (Or.inr sz28)
  have N106 := Fr.snoc X106 N91 ge28
  obtain ⟨Lz116, X106, N106⟩ : ∃ Lz, Stand p l e rom_6 s m #[(.ref a1), (.int (4 : Int32)), (.ref gv)] below meth c T106 Lz 4 16 ∧ Fr n0 Lz := ⟨_, X106, N106⟩
  show OG _ _ _ _ _ _ _ (T106.setTop (mkF m 58 #[.val (.ref a1), .val (.int (4 : Int32)), .val (.ref gv), .val (.int (0 : Int32))] []))
  have s117 : ∀ tz, Steps p.tables e below (T106.setTop (mkF m 59 #[.val (.ref a1), .val (.int (4 : Int32)), .val (.ref gv), .val (.int (0 : Int32))] [(.ref a1)])) tz → Steps p.tables e below (T106.setTop (mkF m 58 #[.val (.ref a1), .val (.int (4 : Int32)), .val (.ref gv), .val (.int (0 : Int32))] [])) tz := by
    intro tz kz
    refine XS.aloadN X106.here hx rfl (hb hby d6_58) rfl rfl ?_
    exact kz
  refine OG.step s117 ?_
  obtain ⟨T118, X118, e118, st118⟩ := getF X106 hx hZ hown (host := "") (Or.inl (hw _ (List.mem_of_getElem? (i := 52) rfl))) Via.refl e106 f112 (g := (mkF m 59 #[.val (.ref a1), .val (.int (4 : Int32)), .val (.ref gv), .val (.int (0 : Int32))] [(.ref a1)])) rfl rfl (hb hby d6_59)
  refine OG.step st118 ?_
  show OG _ _ _ _ _ _ _ (T118.setTop (mkF m 62 #[.val (.ref a1), .val (.int (4 : Int32)), .val (.ref gv), .val (.int (0 : Int32))] [(.ref b46)]))
  have s119 : ∀ tz, Steps p.tables e below (T118.setTop (mkF m 64 #[.val (.ref a1), .val (.int (4 : Int32)), .val (.ref gv), .val (.int (0 : Int32))] [(.int (-1 : Int32)), (.int (0 : Int32)), (.ref b46)])) tz → Steps p.tables e below (T118.setTop (mkF m 62 #[.val (.ref a1), .val (.int (4 : Int32)), .val (.ref gv), .val (.int (0 : Int32))] [(.ref b46)])) tz := by
    intro tz kz
    refine XS.iloadN X118.here hx rfl (hb hby d6_62) rfl ?_
    refine XS.iconst X118.here hx rfl (hb hby d6_63) ?_
    exact kz
  refine OG.step s119 ?_
  have av120 := f111
  obtain ⟨cl120, Ar120, qa_120, Sa_120, Nn_120, Ha_120, Ga_120⟩ := av120
  have hin120 : ¬ ((0 : Int32) < 0 ∨ cl120.slots.size ≤ ((0 : Int32)).toNatClampNeg) := inb_of Sa_120 ⟨(by decide), (by decide)⟩
  obtain ⟨T121, h121, X121, e121, W121, st121⟩ := stI X118 hx hZ e118 Ar120 (j := (0 : Int32)) hin120 (g := (mkF m 64 #[.val (.ref a1), .val (.int (4 : Int32)), .val (.ref gv), .val (.int (0 : Int32))] [(.int (-1 : Int32)), (.int (0 : Int32)), (.ref b46)])) rfl rfl (hb hby d6_64)
  refine OG.step st121 ?_
  have Va121 := Arv.set Ar120 qa_120 Sa_120 Nn_120 Ha_120 Ga_120 rfl W121 (0) (by decide) (Nat.le_of_ble_eq_true rfl)
  have V121 : Arv Z h121 b46 k46 .int (4 : Int32) [(.int (-1 : Int32)), (.int (0 : Int32)), (.int (0 : Int32)), (.int (0 : Int32))] (.int (0 : Int32)) := Va121
  have f122 := f107.wr W121
  have f123 := f108.other W121 (Or.inl ne46_a1)
  have f124 := f109.other W121 (Or.inl ne46_a1)
  have f125 := f110.other W121 (Or.inl ne46_a1)
  have f126 := f112.other W121 (Or.inl ne46_a1)
  have f127 := f113.other W121 (Ne.symm ne66_b46)
  have f128 := f114.other W121 (Or.inl ne46_a1)
  have f129 := f115.other W121 ne46_b12
  have f130 := V106.other W121 ne46_b28
  have K121 := K106.wr W121 (Or.inr sz46)
  have N121 := Fr.snoc X121 N106 ge46
  obtain ⟨Lz131, X121, N121⟩ : ∃ Lz, Stand p l e rom_6 s m #[(.ref a1), (.int (4 : Int32)), (.ref gv)] below meth c T121 Lz 4 16 ∧ Fr n0 Lz := ⟨_, X121, N121⟩
  show OG _ _ _ _ _ _ _ (T121.setTop (mkF m 65 #[.val (.ref a1), .val (.int (4 : Int32)), .val (.ref gv), .val (.int (0 : Int32))] []))
  have s132 : ∀ tz, Steps p.tables e below (T121.setTop (mkF m 66 #[.val (.ref a1), .val (.int (4 : Int32)), .val (.ref gv), .val (.int (0 : Int32))] [(.ref a1)])) tz → Steps p.tables e below (T121.setTop (mkF m 65 #[.val (.ref a1), .val (.int (4 : Int32)), .val (.ref gv), .val (.int (0 : Int32))] [])) tz := by
    intro tz kz
    refine XS.aloadN X121.here hx rfl (hb hby d6_65) rfl rfl ?_
    exact kz
  refine OG.step s132 ?_
  obtain ⟨T133, X133, e133, st133⟩ := getF X121 hx hZ hown (host := "") (Or.inl (hw _ (List.mem_of_getElem? (i := 54) rfl))) Via.refl e121 f128 (g := (mkF m 66 #[.val (.ref a1), .val (.int (4 : Int32)), .val (.ref gv), .val (.int (0 : Int32))] [(.ref a1)])) rfl rfl (hb hby d6_66)
  refine OG.step st133 ?_
  show OG _ _ _ _ _ _ _ (T133.setTop (mkF m 69 #[.val (.ref a1), .val (.int (4 : Int32)), .val (.ref gv), .val (.int (0 : Int32))] [(.ref b66)]))
  have s134 : ∀ tz, Steps p.tables e below (T133.setTop (mkF m 71 #[.val (.ref a1), .val (.int (4 : Int32)), .val (.ref gv), .val (.int (0 : Int32))] [(.int (0 : Int32)), (.int (0 : Int32)), (.ref b66)])) tz → Steps p.tables e below (T133.setTop (mkF m 69 #[.val (.ref a1), .val (.int (4 : Int32)), .val (.ref gv), .val (.int (0 : Int32))] [(.ref b66)])) tz := by
    intro tz kz
    refine XS.iloadN X133.here hx rfl (hb hby d6_69) rfl ?_
    refine XS.iloadN X133.here hx rfl (hb hby d6_70) rfl ?_
    exact kz
  refine OG.step s134 ?_
  have av135 := f127
  obtain ⟨cl135, Ar135, qa_135, Sa_135, Nn_135, Ha_135, Ga_135⟩ := av135
  have hin135 : ¬ ((0 : Int32) < 0 ∨ cl135.slots.size ≤ ((0 : Int32)).toNatClampNeg) := inb_of Sa_135 ⟨(by decide), (by decide)⟩
  obtain ⟨T136, h136, X136, e136, W136, st136⟩ := stI X133 hx hZ e133 Ar135 (j := (0 : Int32)) hin135 (g := (mkF m 71 #[.val (.ref a1), .val (.int (4 : Int32)), .val (.ref gv), .val (.int (0 : Int32))] [(.int (0 : Int32)), (.int (0 : Int32)), (.ref b66)])) rfl rfl (hb hby d6_71)
  refine OG.step st136 ?_
  have Va136 := Arv.set Ar135 qa_135 Sa_135 Nn_135 Ha_135 Ga_135 rfl W136 (0) (by decide) (Nat.le_of_ble_eq_true rfl)
  have V136 : Arv Z h136 b66 k66 .int (4 : Int32) [(.int (0 : Int32)), (.int (0 : Int32)), (.int (0 : Int32)), (.int (0 : Int32))] (.int (0 : Int32)) := Va136
  have f137 := f122.wr W136
  have f138 := f123.other W136 (Or.inl ne66_a1)
  have f139 := f124.other W136 (Or.inl ne66_a1)
  have f140 := f125.other W136 (Or.inl ne66_a1)
  have f141 := f126.other W136 (Or.inl ne66_a1)
  have f142 := f128.other W136 (Or.inl ne66_a1)
  have f143 := f129.other W136 ne66_b12
  have f144 := f130.other W136 ne66_b28
  have f145 := V121.other W136 ne66_b46
  have K136 := K121.wr W136 (Or.inr sz66)
  have N136 := Fr.snoc X136 N121 ge66
  obtain ⟨Lz146, X136, N136⟩ : ∃ Lz, Stand p l e rom_6 s m #[(.ref a1), (.int (4 : Int32)), (.ref gv)] below meth c T136 Lz 4 16 ∧ Fr n0 Lz := ⟨_, X136, N136⟩
  show OG _ _ _ _ _ _ _ (T136.setTop (mkF m 72 #[.val (.ref a1), .val (.int (4 : Int32)), .val (.ref gv), .val (.int (0 : Int32))] []))
  have s147 : ∀ tz, Steps p.tables e below (T136.setTop (mkF m 45 #[.val (.ref a1), .val (.int (4 : Int32)), .val (.ref gv), .val (.int (1 : Int32))] [(.ref a1)])) tz → Steps p.tables e below (T136.setTop (mkF m 72 #[.val (.ref a1), .val (.int (4 : Int32)), .val (.ref gv), .val (.int (0 : Int32))] [])) tz := by
    intro tz kz
    refine XS.iinc X136.here hx rfl (hb hby d6_72) rfl (l' := #[.val (.ref a1), .val (.int (4 : Int32)), .val (.ref gv), .val (.int (1 : Int32))]) rfl ?_
    refine XS.goto X136.here hx rfl (pc0 := 75) (pc' := 39) rfl (hb hby d6_75) (by decide) (by decide) ?_
    refine XS.iloadN X136.here hx rfl (hb hby d6_39) rfl ?_
    refine XS.iloadN X136.here hx rfl (hb hby d6_40) rfl ?_
    refine XS.icmpNo X136.here hx rfl (hb hby d6_41) rfl (tlt (by decide)).2.1 ?_
    show Steps p.tables e below (T136.setTop (mkF m 44 #[.val (.ref a1), .val (.int (4 : Int32)), .val (.ref gv), .val (.int (1 : Int32))] [])) _
    refine XS.aloadN X136.here hx rfl (hb hby d6_44) rfl rfl ?_
    exact kz
  refine OG.step s147 ?_
  obtain ⟨T148, X148, e148, st148⟩ := getF X136 hx hZ hown (host := "") (Or.inl (hw _ (List.mem_of_getElem? (i := 48) rfl))) Via.refl e136 f139 (g := (mkF m 45 #[.val (.ref a1), .val (.int (4 : Int32)), .val (.ref gv), .val (.int (1 : Int32))] [(.ref a1)])) rfl rfl (hb hby d6_45)
  refine OG.step st148 ?_
  show OG _ _ _ _ _ _ _ (T148.setTop (mkF m 48 #[.val (.ref a1), .val (.int (4 : Int32)), .val (.ref gv), .val (.int (1 : Int32))] [(.ref b12)]))
  have s149 : ∀ tz, Steps p.tables e below (T148.setTop (mkF m 50 #[.val (.ref a1), .val (.int (4 : Int32)), .val (.ref gv), .val (.int (1 : Int32))] [(.int (1 : Int32)), (.int (1 : Int32)), (.ref b12)])) tz → Steps p.tables e below (T148.setTop (mkF m 48 #[.val (.ref a1), .val (.int (4 : Int32)), .val (.ref gv), .val (.int (1 : Int32))] [(.ref b12)])) tz := by
    intro tz kz
    refine XS.iloadN X148.here hx rfl (hb hby d6_48) rfl ?_
    refine XS.iloadN X148.here hx rfl (hb hby d6_49) rfl ?_
    exact kz
  refine OG.step s149 ?_
  have av150 := f143
  obtain ⟨cl150, Ar150, qa_150, Sa_150, Nn_150, Ha_150, Ga_150⟩ := av150
  have hin150 : ¬ ((1 : Int32) < 0 ∨ cl150.slots.size ≤ ((1 : Int32)).toNatClampNeg) := inb_of Sa_150 ⟨(by decide), (by decide)⟩
  obtain ⟨T151, h151, X151, e151, W151, st151⟩ := stI X148 hx hZ e148 Ar150 (j := (1 : Int32)) hin150 (g := (mkF m 50 #[.val (.ref a1), .val (.int (4 : Int32)), .val (.ref gv), .val (.int (1 : Int32))] [(.int (1 : Int32)), (.int (1 : Int32)), (.ref b12)])) rfl rfl (hb hby d6_50)
  refine OG.step st151 ?_
  have Va151 := Arv.set Ar150 qa_150 Sa_150 Nn_150 Ha_150 Ga_150 rfl W151 (1) (by decide) (Nat.le_of_ble_eq_true rfl)
  have V151 : Arv Z h151 b12 k12 .int (4 : Int32) [(.int (0 : Int32)), (.int (1 : Int32)), (.int (0 : Int32)), (.int (0 : Int32))] (.int (0 : Int32)) := Va151
  have f152 := f137.wr W151
  have f153 := f138.other W151 (Or.inl ne12_a1)
  have f154 := f139.other W151 (Or.inl ne12_a1)
  have f155 := f140.other W151 (Or.inl ne12_a1)
  have f156 := f141.other W151 (Or.inl ne12_a1)
  have f157 := f142.other W151 (Or.inl ne12_a1)
  have f158 := f144.other W151 (Ne.symm ne28_b12)
  have f159 := f145.other W151 (Ne.symm ne46_b12)
  have f160 := V136.other W151 (Ne.symm ne66_b12)
  have K151 := K136.wr W151 (Or.inr sz12)
  have N151 := Fr.snoc X151 N136 ge12
  obtain ⟨Lz161, X151, N151⟩ : ∃ Lz, Stand p l e rom_6 s m #[(.ref a1), (.int (4 : Int32)), (.ref gv)] below meth c T151 Lz 4 16 ∧ Fr n0 Lz := ⟨_, X151, N151⟩
  show OG _ _ _ _ _ _ _ (T151.setTop (mkF m 51 #[.val (.ref a1), .val (.int (4 : Int32)), .val (.ref gv), .val (.int (1 : Int32))] []))
  have s162 : ∀ tz, Steps p.tables e below (T151.setTop (mkF m 52 #[.val (.ref a1), .val (.int (4 : Int32)), .val (.ref gv), .val (.int (1 : Int32))] [(.ref a1)])) tz → Steps p.tables e below (T151.setTop (mkF m 51 #[.val (.ref a1), .val (.int (4 : Int32)), .val (.ref gv), .val (.int (1 : Int32))] [])) tz := by
    intro tz kz
    refine XS.aloadN X151.here hx rfl (hb hby d6_51) rfl rfl ?_
    exact kz
  refine OG.step s162 ?_
  obtain ⟨T163, X163, e163, st163⟩ := getF X151 hx hZ hown (host := "") (Or.inl (hw _ (List.mem_of_getElem? (i := 50) rfl))) Via.refl e151 f155 (g := (mkF m 52 #[.val (.ref a1), .val (.int (4 : Int32)), .val (.ref gv), .val (.int (1 : Int32))] [(.ref a1)])) rfl rfl (hb hby d6_52)
  refine OG.step st163 ?_
  show OG _ _ _ _ _ _ _ (T163.setTop (mkF m 55 #[.val (.ref a1), .val (.int (4 : Int32)), .val (.ref gv), .val (.int (1 : Int32))] [(.ref b28)]))
  have s164 : ∀ tz, Steps p.tables e below (T163.setTop (mkF m 57 #[.val (.ref a1), .val (.int (4 : Int32)), .val (.ref gv), .val (.int (1 : Int32))] [(.int (1 : Int32)), (.int (1 : Int32)), (.ref b28)])) tz → Steps p.tables e below (T163.setTop (mkF m 55 #[.val (.ref a1), .val (.int (4 : Int32)), .val (.ref gv), .val (.int (1 : Int32))] [(.ref b28)])) tz := by
    intro tz kz
    refine XS.iloadN X163.here hx rfl (hb hby d6_55) rfl ?_
    refine XS.iconst X163.here hx rfl (hb hby d6_56) ?_
    exact kz
  refine OG.step s164 ?_
  have av165 := f158
  obtain ⟨cl165, Ar165, qa_165, Sa_165, Nn_165, Ha_165, Ga_165⟩ := av165
  have hin165 : ¬ ((1 : Int32) < 0 ∨ cl165.slots.size ≤ ((1 : Int32)).toNatClampNeg) := inb_of Sa_165 ⟨(by decide), (by decide)⟩
  obtain ⟨T166, h166, X166, e166, W166, st166⟩ := stI X163 hx hZ e163 Ar165 (j := (1 : Int32)) hin165 (g := (mkF m 57 #[.val (.ref a1), .val (.int (4 : Int32)), .val (.ref gv), .val (.int (1 : Int32))] [(.int (1 : Int32)), (.int (1 : Int32)), (.ref b28)])) rfl rfl (hb hby d6_57)
  refine OG.step st166 ?_
  have Va166 := Arv.set Ar165 qa_165 Sa_165 Nn_165 Ha_165 Ga_165 rfl W166 (1) (by decide) (Nat.le_of_ble_eq_true rfl)
  have V166 : Arv Z h166 b28 k28 .int (4 : Int32) [(.int (1 : Int32)), (.int (1 : Int32)), (.int (0 : Int32)), (.int (0 : Int32))] (.int (0 : Int32)) := Va166
  have f167 := f152.wr W166
  have f168 := f153.other W166 (Or.inl ne28_a1)
  have f169 := f154.other W166 (Or.inl ne28_a1)
  have f170 := f155.other W166 (Or.inl ne28_a1)
  have f171 := f156.other W166 (Or.inl ne28_a1)
  have f172 := f157.other W166 (Or.inl ne28_a1)
  have f173 := f159.other W166 (Ne.symm ne46_b28)
  have f174 := f160.other W166 (Ne.symm ne66_b28)
  have f175 := V151.other W166 ne28_b12
  have K166 := K151.wr W166 (Or.inr sz28)
  have N166 := Fr.snoc X166 N151 ge28
  obtain ⟨Lz176, X166, N166⟩ : ∃ Lz, Stand p l e rom_6 s m #[(.ref a1), (.int (4 : Int32)), (.ref gv)] below meth c T166 Lz 4 16 ∧ Fr n0 Lz := ⟨_, X166, N166⟩
  show OG _ _ _ _ _ _ _ (T166.setTop (mkF m 58 #[.val (.ref a1), .val (.int (4 : Int32)), .val (.ref gv), .val (.int (1 : Int32))] []))
  have s177 : ∀ tz, Steps p.tables e below (T166.setTop (mkF m 59 #[.val (.ref a1), .val (.int (4 : Int32)), .val (.ref gv), .val (.int (1 : Int32))] [(.ref a1)])) tz → Steps p.tables e below (T166.setTop (mkF m 58 #[.val (.ref a1), .val (.int (4 : Int32)), .val (.ref gv), .val (.int (1 : Int32))] [])) tz := by
    intro tz kz
    refine XS.aloadN X166.here hx rfl (hb hby d6_58) rfl rfl ?_
    exact kz
  refine OG.step s177 ?_
  obtain ⟨T178, X178, e178, st178⟩ := getF X166 hx hZ hown (host := "") (Or.inl (hw _ (List.mem_of_getElem? (i := 52) rfl))) Via.refl e166 f171 (g := (mkF m 59 #[.val (.ref a1), .val (.int (4 : Int32)), .val (.ref gv), .val (.int (1 : Int32))] [(.ref a1)])) rfl rfl (hb hby d6_59)
  refine OG.step st178 ?_
  show OG _ _ _ _ _ _ _ (T178.setTop (mkF m 62 #[.val (.ref a1), .val (.int (4 : Int32)), .val (.ref gv), .val (.int (1 : Int32))] [(.ref b46)]))
  have s179 : ∀ tz, Steps p.tables e below (T178.setTop (mkF m 64 #[.val (.ref a1), .val (.int (4 : Int32)), .val (.ref gv), .val (.int (1 : Int32))] [(.int (-1 : Int32)), (.int (1 : Int32)), (.ref b46)])) tz → Steps p.tables e below (T178.setTop (mkF m 62 #[.val (.ref a1), .val (.int (4 : Int32)), .val (.ref gv), .val (.int (1 : Int32))] [(.ref b46)])) tz := by
    intro tz kz
    refine XS.iloadN X178.here hx rfl (hb hby d6_62) rfl ?_
    refine XS.iconst X178.here hx rfl (hb hby d6_63) ?_
    exact kz
  refine OG.step s179 ?_
  have av180 := f173
  obtain ⟨cl180, Ar180, qa_180, Sa_180, Nn_180, Ha_180, Ga_180⟩ := av180
  have hin180 : ¬ ((1 : Int32) < 0 ∨ cl180.slots.size ≤ ((1 : Int32)).toNatClampNeg) := inb_of Sa_180 ⟨(by decide), (by decide)⟩
  obtain ⟨T181, h181, X181, e181, W181, st181⟩ := stI X178 hx hZ e178 Ar180 (j := (1 : Int32)) hin180 (g := (mkF m 64 #[.val (.ref a1), .val (.int (4 : Int32)), .val (.ref gv), .val (.int (1 : Int32))] [(.int (-1 : Int32)), (.int (1 : Int32)), (.ref b46)])) rfl rfl (hb hby d6_64)
  refine OG.step st181 ?_
  have Va181 := Arv.set Ar180 qa_180 Sa_180 Nn_180 Ha_180 Ga_180 rfl W181 (1) (by decide) (Nat.le_of_ble_eq_true rfl)
  have V181 : Arv Z h181 b46 k46 .int (4 : Int32) [(.int (-1 : Int32)), (.int (-1 : Int32)), (.int (0 : Int32)), (.int (0 : Int32))] (.int (0 : Int32)) := Va181
  have f182 := f167.wr W181
  have f183 := f168.other W181 (Or.inl ne46_a1)
  have f184 := f169.other W181 (Or.inl ne46_a1)
  have f185 := f170.other W181 (Or.inl ne46_a1)
  have f186 := f171.other W181 (Or.inl ne46_a1)
  have f187 := f172.other W181 (Or.inl ne46_a1)
  have f188 := f174.other W181 (Ne.symm ne66_b46)
  have f189 := f175.other W181 ne46_b12
  have f190 := V166.other W181 ne46_b28
  have K181 := K166.wr W181 (Or.inr sz46)
  have N181 := Fr.snoc X181 N166 ge46
  obtain ⟨Lz191, X181, N181⟩ : ∃ Lz, Stand p l e rom_6 s m #[(.ref a1), (.int (4 : Int32)), (.ref gv)] below meth c T181 Lz 4 16 ∧ Fr n0 Lz := ⟨_, X181, N181⟩
  show OG _ _ _ _ _ _ _ (T181.setTop (mkF m 65 #[.val (.ref a1), .val (.int (4 : Int32)), .val (.ref gv), .val (.int (1 : Int32))] []))
  have s192 : ∀ tz, Steps p.tables e below (T181.setTop (mkF m 66 #[.val (.ref a1), .val (.int (4 : Int32)), .val (.ref gv), .val (.int (1 : Int32))] [(.ref a1)])) tz → Steps p.tables e below (T181.setTop (mkF m 65 #[.val (.ref a1), .val (.int (4 : Int32)), .val (.ref gv), .val (.int (1 : Int32))] [])) tz := by
    intro tz kz
    refine XS.aloadN X181.here hx rfl (hb hby d6_65) rfl rfl ?_
    exact kz
  refine OG.step s192 ?_
  obtain ⟨T193, X193, e193, st193⟩ := getF X181 hx hZ hown (host := "") (Or.inl (hw _ (List.mem_of_getElem? (i := 54) rfl))) Via.refl e181 f187 (g := (mkF m 66 #[.val (.ref a1), .val (.int (4 : Int32)), .val (.ref gv), .val (.int (1 : Int32))] [(.ref a1)])) rfl rfl (hb hby d6_66)
  refine OG.step st193 ?_
  show OG _ _ _ _ _ _ _ (T193.setTop (mkF m 69 #[.val (.ref a1), .val (.int (4 : Int32)), .val (.ref gv), .val (.int (1 : Int32))] [(.ref b66)]))
  have s194 : ∀ tz, Steps p.tables e below (T193.setTop (mkF m 71 #[.val (.ref a1), .val (.int (4 : Int32)), .val (.ref gv), .val (.int (1 : Int32))] [(.int (1 : Int32)), (.int (1 : Int32)), (.ref b66)])) tz → Steps p.tables e below (T193.setTop (mkF m 69 #[.val (.ref a1), .val (.int (4 : Int32)), .val (.ref gv), .val (.int (1 : Int32))] [(.ref b66)])) tz := by
    intro tz kz
    refine XS.iloadN X193.here hx rfl (hb hby d6_69) rfl ?_
    refine XS.iloadN X193.here hx rfl (hb hby d6_70) rfl ?_
    exact kz
  refine OG.step s194 ?_
  have av195 := f188
  obtain ⟨cl195, Ar195, qa_195, Sa_195, Nn_195, Ha_195, Ga_195⟩ := av195
  have hin195 : ¬ ((1 : Int32) < 0 ∨ cl195.slots.size ≤ ((1 : Int32)).toNatClampNeg) := inb_of Sa_195 ⟨(by decide), (by decide)⟩
  obtain ⟨T196, h196, X196, e196, W196, st196⟩ := stI X193 hx hZ e193 Ar195 (j := (1 : Int32)) hin195 (g := (mkF m 71 #[.val (.ref a1), .val (.int (4 : Int32)), .val (.ref gv), .val (.int (1 : Int32))] [(.int (1 : Int32)), (.int (1 : Int32)), (.ref b66)])) rfl rfl (hb hby d6_71)
  refine OG.step st196 ?_
  have Va196 := Arv.set Ar195 qa_195 Sa_195 Nn_195 Ha_195 Ga_195 rfl W196 (1) (by decide) (Nat.le_of_ble_eq_true rfl)
  have V196 : Arv Z h196 b66 k66 .int (4 : Int32) [(.int (0 : Int32)), (.int (1 : Int32)), (.int (0 : Int32)), (.int (0 : Int32))] (.int (0 : Int32)) := Va196
  have f197 := f182.wr W196
  have f198 := f183.other W196 (Or.inl ne66_a1)
  have f199 := f184.other W196 (Or.inl ne66_a1)
  have f200 := f185.other W196 (Or.inl ne66_a1)
  have f201 := f186.other W196 (Or.inl ne66_a1)
  have f202 := f187.other W196 (Or.inl ne66_a1)
  have f203 := f189.other W196 ne66_b12
  have f204 := f190.other W196 ne66_b28
  have f205 := V181.other W196 ne66_b46
  have K196 := K181.wr W196 (Or.inr sz66)
  have N196 := Fr.snoc X196 N181 ge66
  obtain ⟨Lz206, X196, N196⟩ : ∃ Lz, Stand p l e rom_6 s m #[(.ref a1), (.int (4 : Int32)), (.ref gv)] below meth c T196 Lz 4 16 ∧ Fr n0 Lz := ⟨_, X196, N196⟩
  show OG _ _ _ _ _ _ _ (T196.setTop (mkF m 72 #[.val (.ref a1), .val (.int (4 : Int32)), .val (.ref gv), .val (.int (1 : Int32))] []))
  have s207 : ∀ tz, Steps p.tables e below (T196.setTop (mkF m 45 #[.val (.ref a1), .val (.int (4 : Int32)), .val (.ref gv), .val (.int (2 : Int32))] [(.ref a1)])) tz → Steps p.tables e below (T196.setTop (mkF m 72 #[.val (.ref a1), .val (.int (4 : Int32)), .val (.ref gv), .val (.int (1 : Int32))] [])) tz := by
    intro tz kz
    refine XS.iinc X196.here hx rfl (hb hby d6_72) rfl (l' := #[.val (.ref a1), .val (.int (4 : Int32)), .val (.ref gv), .val (.int (2 : Int32))]) rfl ?_
    refine XS.goto X196.here hx rfl (pc0 := 75) (pc' := 39) rfl (hb hby d6_75) (by decide) (by decide) ?_
    refine XS.iloadN X196.here hx rfl (hb hby d6_39) rfl ?_
    refine XS.iloadN X196.here hx rfl (hb hby d6_40) rfl ?_
    refine XS.icmpNo X196.here hx rfl (hb hby d6_41) rfl (tlt (by decide)).2.1 ?_
    show Steps p.tables e below (T196.setTop (mkF m 44 #[.val (.ref a1), .val (.int (4 : Int32)), .val (.ref gv), .val (.int (2 : Int32))] [])) _
    refine XS.aloadN X196.here hx rfl (hb hby d6_44) rfl rfl ?_
    exact kz
  refine OG.step s207 ?_
  obtain ⟨T208, X208, e208, st208⟩ := getF X196 hx hZ hown (host := "") (Or.inl (hw _ (List.mem_of_getElem? (i := 48) rfl))) Via.refl e196 f199 (g := (mkF m 45 #[.val (.ref a1), .val (.int (4 : Int32)), .val (.ref gv), .val (.int (2 : Int32))] [(.ref a1)])) rfl rfl (hb hby d6_45)
  refine OG.step st208 ?_
  show OG _ _ _ _ _ _ _ (T208.setTop (mkF m 48 #[.val (.ref a1), .val (.int (4 : Int32)), .val (.ref gv), .val (.int (2 : Int32))] [(.ref b12)]))
  have s209 : ∀ tz, Steps p.tables e below (T208.setTop (mkF m 50 #[.val (.ref a1), .val (.int (4 : Int32)), .val (.ref gv), .val (.int (2 : Int32))] [(.int (2 : Int32)), (.int (2 : Int32)), (.ref b12)])) tz → Steps p.tables e below (T208.setTop (mkF m 48 #[.val (.ref a1), .val (.int (4 : Int32)), .val (.ref gv), .val (.int (2 : Int32))] [(.ref b12)])) tz := by
    intro tz kz
    refine XS.iloadN X208.here hx rfl (hb hby d6_48) rfl ?_
    refine XS.iloadN X208.here hx rfl (hb hby d6_49) rfl ?_
    exact kz
  refine OG.step s209 ?_
  have av210 := f203
  obtain ⟨cl210, Ar210, qa_210, Sa_210, Nn_210, Ha_210, Ga_210⟩ := av210
  have hin210 : ¬ ((2 : Int32) < 0 ∨ cl210.slots.size ≤ ((2 : Int32)).toNatClampNeg) := inb_of Sa_210 ⟨(by decide), (by decide)⟩
  obtain ⟨T211, h211, X211, e211, W211, st211⟩ := stI X208 hx hZ e208 Ar210 (j := (2 : Int32)) hin210 (g := (mkF m 50 #[.val (.ref a1), .val (.int (4 : Int32)), .val (.ref gv), .val (.int (2 : Int32))] [(.int (2 : Int32)), (.int (2 : Int32)), (.ref b12)])) rfl rfl (hb hby d6_50)
  refine OG.step st211 ?_
  have Va211 := Arv.set Ar210 qa_210 Sa_210 Nn_210 Ha_210 Ga_210 rfl W211 (2) (by decide) (Nat.le_of_ble_eq_true rfl)
  have V211 : Arv Z h211 b12 k12 .int (4 : Int32) [(.int (0 : Int32)), (.int (1 : Int32)), (.int (2 : Int32)), (.int (0 : Int32))] (.int (0 : Int32)) := Va211
  have f212 := f197.wr W211
  have f213 := f198.other W211 (Or.inl ne12_a1)
  have f214 := f199.other W211 (Or.inl ne12_a1)
  have f215 := f200.other W211 (Or.inl ne12_a1)
  have f216 := f201.other W211 (Or.inl ne12_a1)
  have f217 := f202.other W211 (Or.inl ne12_a1)
  have f218 := f204.other W211 (Ne.symm ne28_b12)
  have f219 := f205.other W211 (Ne.symm ne46_b12)
  have f220 := V196.other W211 (Ne.symm ne66_b12)
  have K211 := K196.wr W211 (Or.inr sz12)
  have N211 := Fr.snoc X211 N196 ge12
  obtain ⟨Lz221, X211, N211⟩ : ∃ Lz, Stand p l e rom_6 s m #[(.ref a1), (.int (4 : Int32)), (.ref gv)] below meth c T211 Lz 4 16 ∧ Fr n0 Lz := ⟨_, X211, N211⟩
  show OG _ _ _ _ _ _ _ (T211.setTop (mkF m 51 #[.val (.ref a1), .val (.int (4 : Int32)), .val (.ref gv), .val (.int (2 : Int32))] []))
  have s222 : ∀ tz, Steps p.tables e below (T211.setTop (mkF m 52 #[.val (.ref a1), .val (.int (4 : Int32)), .val (.ref gv), .val (.int (2 : Int32))] [(.ref a1)])) tz → Steps p.tables e below (T211.setTop (mkF m 51 #[.val (.ref a1), .val (.int (4 : Int32)), .val (.ref gv), .val (.int (2 : Int32))] [])) tz := by
    intro tz kz
    refine XS.aloadN X211.here hx rfl (hb hby d6_51) rfl rfl ?_
    exact kz
  refine OG.step s222 ?_
  obtain ⟨T223, X223, e223, st223⟩ := getF X211 hx hZ hown (host := "") (Or.inl (hw _ (List.mem_of_getElem? (i := 50) rfl))) Via.refl e211 f215 (g := (mkF m 52 #[.val (.ref a1), .val (.int (4 : Int32)), .val (.ref gv), .val (.int (2 : Int32))] [(.ref a1)])) rfl rfl (hb hby d6_52)
  refine OG.step st223 ?_
  show OG _ _ _ _ _ _ _ (T223.setTop (mkF m 55 #[.val (.ref a1), .val (.int (4 : Int32)), .val (.ref gv), .val (.int (2 : Int32))] [(.ref b28)]))
  have s224 : ∀ tz, Steps p.tables e below (T223.setTop (mkF m 57 #[.val (.ref a1), .val (.int (4 : Int32)), .val (.ref gv), .val (.int (2 : Int32))] [(.int (1 : Int32)), (.int (2 : Int32)), (.ref b28)])) tz → Steps p.tables e below (T223.setTop (mkF m 55 #[.val (.ref a1), .val (.int (4 : Int32)), .val (.ref gv), .val (.int (2 : Int32))] [(.ref b28)])) tz := by
    intro tz kz
    refine XS.iloadN X223.here hx rfl (hb hby d6_55) rfl ?_
    refine XS.iconst X223.here hx rfl (hb hby d6_56) ?_
    exact kz
  refine OG.step s224 ?_
  have av225 := f218
  obtain ⟨cl225, Ar225, qa_225, Sa_225, Nn_225, Ha_225, Ga_225⟩ := av225
  have hin225 : ¬ ((2 : Int32) < 0 ∨ cl225.slots.size ≤ ((2 : Int32)).toNatClampNeg) := inb_of Sa_225 ⟨(by decide), (by decide)⟩
  obtain ⟨T226, h226, X226, e226, W226, st226⟩ := stI X223 hx hZ e223 Ar225 (j := (2 : Int32)) hin225 (g := (mkF m 57 #[.val (.ref a1), .val (.int (4 : Int32)), .val (.ref gv), .val (.int (2 : Int32))] [(.int (1 : Int32)), (.int (2 : Int32)), (.ref b28)])) rfl rfl (hb hby d6_57)
  refine OG.step st226 ?_
  have Va226 := Arv.set Ar225 qa_225 Sa_225 Nn_225 Ha_225 Ga_225 rfl W226 (2) (by decide) (Nat.le_of_ble_eq_true rfl)
  have V226 : Arv Z h226 b28 k28 .int (4 : Int32) [(.int (1 : Int32)), (.int (1 : Int32)), (.int (1 : Int32)), (.int (0 : Int32))] (.int (0 : Int32)) := Va226
  have f227 := f212.wr W226
  have f228 := f213.other W226 (Or.inl ne28_a1)
  have f229 := f214.other W226 (Or.inl ne28_a1)
  have f230 := f215.other W226 (Or.inl ne28_a1)
  have f231 := f216.other W226 (Or.inl ne28_a1)
  have f232 := f217.other W226 (Or.inl ne28_a1)
  have f233 := f219.other W226 (Ne.symm ne46_b28)
  have f234 := f220.other W226 (Ne.symm ne66_b28)
  have f235 := V211.other W226 ne28_b12
  have K226 := K211.wr W226 (Or.inr sz28)
  have N226 := Fr.snoc X226 N211 ge28
  obtain ⟨Lz236, X226, N226⟩ : ∃ Lz, Stand p l e rom_6 s m #[(.ref a1), (.int (4 : Int32)), (.ref gv)] below meth c T226 Lz 4 16 ∧ Fr n0 Lz := ⟨_, X226, N226⟩
  show OG _ _ _ _ _ _ _ (T226.setTop (mkF m 58 #[.val (.ref a1), .val (.int (4 : Int32)), .val (.ref gv), .val (.int (2 : Int32))] []))
  have s237 : ∀ tz, Steps p.tables e below (T226.setTop (mkF m 59 #[.val (.ref a1), .val (.int (4 : Int32)), .val (.ref gv), .val (.int (2 : Int32))] [(.ref a1)])) tz → Steps p.tables e below (T226.setTop (mkF m 58 #[.val (.ref a1), .val (.int (4 : Int32)), .val (.ref gv), .val (.int (2 : Int32))] [])) tz := by
    intro tz kz
    refine XS.aloadN X226.here hx rfl (hb hby d6_58) rfl rfl ?_
    exact kz
  refine OG.step s237 ?_
  obtain ⟨T238, X238, e238, st238⟩ := getF X226 hx hZ hown (host := "") (Or.inl (hw _ (List.mem_of_getElem? (i := 52) rfl))) Via.refl e226 f231 (g := (mkF m 59 #[.val (.ref a1), .val (.int (4 : Int32)), .val (.ref gv), .val (.int (2 : Int32))] [(.ref a1)])) rfl rfl (hb hby d6_59)
  refine OG.step st238 ?_
  show OG _ _ _ _ _ _ _ (T238.setTop (mkF m 62 #[.val (.ref a1), .val (.int (4 : Int32)), .val (.ref gv), .val (.int (2 : Int32))] [(.ref b46)]))
  have s239 : ∀ tz, Steps p.tables e below (T238.setTop (mkF m 64 #[.val (.ref a1), .val (.int (4 : Int32)), .val (.ref gv), .val (.int (2 : Int32))] [(.int (-1 : Int32)), (.int (2 : Int32)), (.ref b46)])) tz → Steps p.tables e below (T238.setTop (mkF m 62 #[.val (.ref a1), .val (.int (4 : Int32)), .val (.ref gv), .val (.int (2 : Int32))] [(.ref b46)])) tz := by
    intro tz kz
    refine XS.iloadN X238.here hx rfl (hb hby d6_62) rfl ?_
    refine XS.iconst X238.here hx rfl (hb hby d6_63) ?_
    exact kz
  refine OG.step s239 ?_
  have av240 := f233
  obtain ⟨cl240, Ar240, qa_240, Sa_240, Nn_240, Ha_240, Ga_240⟩ := av240
  have hin240 : ¬ ((2 : Int32) < 0 ∨ cl240.slots.size ≤ ((2 : Int32)).toNatClampNeg) := inb_of Sa_240 ⟨(by decide), (by decide)⟩
  obtain ⟨T241, h241, X241, e241, W241, st241⟩ := stI X238 hx hZ e238 Ar240 (j := (2 : Int32)) hin240 (g := (mkF m 64 #[.val (.ref a1), .val (.int (4 : Int32)), .val (.ref gv), .val (.int (2 : Int32))] [(.int (-1 : Int32)), (.int (2 : Int32)), (.ref b46)])) rfl rfl (hb hby d6_64)
  refine OG.step st241 ?_
  have Va241 := Arv.set Ar240 qa_240 Sa_240 Nn_240 Ha_240 Ga_240 rfl W241 (2) (by decide) (Nat.le_of_ble_eq_true rfl)
  have V241 : Arv Z h241 b46 k46 .int (4 : Int32) [(.int (-1 : Int32)), (.int (-1 : Int32)), (.int (-1 : Int32)), (.int (0 : Int32))] (.int (0 : Int32)) := Va241
  have f242 := f227.wr W241
  have f243 := f228.other W241 (Or.inl ne46_a1)
  have f244 := f229.other W241 (Or.inl ne46_a1)
  have f245 := f230.other W241 (Or.inl ne46_a1)
  have f246 := f231.other W241 (Or.inl ne46_a1)
  have f247 := f232.other W241 (Or.inl ne46_a1)
  have f248 := f234.other W241 (Ne.symm ne66_b46)
  have f249 := f235.other W241 ne46_b12
  have f250 := V226.other W241 ne46_b28
  have K241 := K226.wr W241 (Or.inr sz46)
  have N241 := Fr.snoc X241 N226 ge46
  obtain ⟨Lz251, X241, N241⟩ : ∃ Lz, Stand p l e rom_6 s m #[(.ref a1), (.int (4 : Int32)), (.ref gv)] below meth c T241 Lz 4 16 ∧ Fr n0 Lz := ⟨_, X241, N241⟩
  show OG _ _ _ _ _ _ _ (T241.setTop (mkF m 65 #[.val (.ref a1), .val (.int (4 : Int32)), .val (.ref gv), .val (.int (2 : Int32))] []))
  have s252 : ∀ tz, Steps p.tables e below (T241.setTop (mkF m 66 #[.val (.ref a1), .val (.int (4 : Int32)), .val (.ref gv), .val (.int (2 : Int32))] [(.ref a1)])) tz → Steps p.tables e below (T241.setTop (mkF m 65 #[.val (.ref a1), .val (.int (4 : Int32)), .val (.ref gv), .val (.int (2 : Int32))] [])) tz := by
    intro tz kz
    refine XS.aloadN X241.here hx rfl (hb hby d6_65) rfl rfl ?_
    exact kz
  refine OG.step s252 ?_
  obtain ⟨T253, X253, e253, st253⟩ := getF X241 hx hZ hown (host := "") (Or.inl (hw _ (List.mem_of_getElem? (i := 54) rfl))) Via.refl e241 f247 (g := (mkF m 66 #[.val (.ref a1), .val (.int (4 : Int32)), .val (.ref gv), .val (.int (2 : Int32))] [(.ref a1)])) rfl rfl (hb hby d6_66)
  refine OG.step st253 ?_
  show OG _ _ _ _ _ _ _ (T253.setTop (mkF m 69 #[.val (.ref a1), .val (.int (4 : Int32)), .val (.ref gv), .val (.int (2 : Int32))] [(.ref b66)]))
  have s254 : ∀ tz, Steps p.tables e below (T253.setTop (mkF m 71 #[.val (.ref a1), .val (.int (4 : Int32)), .val (.ref gv), .val (.int (2 : Int32))] [(.int (2 : Int32)), (.int (2 : Int32)), (.ref b66)])) tz → Steps p.tables e below (T253.setTop (mkF m 69 #[.val (.ref a1), .val (.int (4 : Int32)), .val (.ref gv), .val (.int (2 : Int32))] [(.ref b66)])) tz := by
    intro tz kz
    refine XS.iloadN X253.here hx rfl (hb hby d6_69) rfl ?_
    refine XS.iloadN X253.here hx rfl (hb hby d6_70) rfl ?_
    exact kz
  refine OG.step s254 ?_
  have av255 := f248
  obtain ⟨cl255, Ar255, qa_255, Sa_255, Nn_255, Ha_255, Ga_255⟩ := av255
  have hin255 : ¬ ((2 : Int32) < 0 ∨ cl255.slots.size ≤ ((2 : Int32)).toNatClampNeg) := inb_of Sa_255 ⟨(by decide), (by decide)⟩
  obtain ⟨T256, h256, X256, e256, W256, st256⟩ := stI X253 hx hZ e253 Ar255 (j := (2 : Int32)) hin255 (g := (mkF m 71 #[.val (.ref a1), .val (.int (4 : Int32)), .val (.ref gv), .val (.int (2 : Int32))] [(.int (2 : Int32)), (.int (2 : Int32)), (.ref b66)])) rfl rfl (hb hby d6_71)
  refine OG.step st256 ?_
  have Va256 := Arv.set Ar255 qa_255 Sa_255 Nn_255 Ha_255 Ga_255 rfl W256 (2) (by decide) (Nat.le_of_ble_eq_true rfl)
  have V256 : Arv Z h256 b66 k66 .int (4 : Int32) [(.int (0 : Int32)), (.int (1 : Int32)), (.int (2 : Int32)), (.int (0 : Int32))] (.int (0 : Int32)) := Va256
  have f257 := f242.wr W256
  have f258 := f243.other W256 (Or.inl ne66_a1)
  have f259 := f244.other W256 (Or.inl ne66_a1)
  have f260 := f245.other W256 (Or.inl ne66_a1)
  have f261 := f246.other W256 (Or.inl ne66_a1)
  have f262 := f247.other W256 (Or.inl ne66_a1)
  have f263 := f249.other W256 ne66_b12
  have f264 := f250.other W256 ne66_b28
  have f265 := V241.other W256 ne66_b46
  have K256 := K241.wr W256 (Or.inr sz66)
  have N256 := Fr.snoc X256 N241 ge66
  obtain ⟨Lz266, X256, N256⟩ : ∃ Lz, Stand p l e rom_6 s m #[(.ref a1), (.int (4 : Int32)), (.ref gv)] below meth c T256 Lz 4 16 ∧ Fr n0 Lz := ⟨_, X256, N256⟩
  show OG _ _ _ _ _ _ _ (T256.setTop (mkF m 72 #[.val (.ref a1), .val (.int (4 : Int32)), .val (.ref gv), .val (.int (2 : Int32))] []))
  have s267 : ∀ tz, Steps p.tables e below (T256.setTop (mkF m 45 #[.val (.ref a1), .val (.int (4 : Int32)), .val (.ref gv), .val (.int (3 : Int32))] [(.ref a1)])) tz → Steps p.tables e below (T256.setTop (mkF m 72 #[.val (.ref a1), .val (.int (4 : Int32)), .val (.ref gv), .val (.int (2 : Int32))] [])) tz := by
    intro tz kz
    refine XS.iinc X256.here hx rfl (hb hby d6_72) rfl (l' := #[.val (.ref a1), .val (.int (4 : Int32)), .val (.ref gv), .val (.int (3 : Int32))]) rfl ?_
    refine XS.goto X256.here hx rfl (pc0 := 75) (pc' := 39) rfl (hb hby d6_75) (by decide) (by decide) ?_
    refine XS.iloadN X256.here hx rfl (hb hby d6_39) rfl ?_
    refine XS.iloadN X256.here hx rfl (hb hby d6_40) rfl ?_
    refine XS.icmpNo X256.here hx rfl (hb hby d6_41) rfl (tlt (by decide)).2.1 ?_
    show Steps p.tables e below (T256.setTop (mkF m 44 #[.val (.ref a1), .val (.int (4 : Int32)), .val (.ref gv), .val (.int (3 : Int32))] [])) _
    refine XS.aloadN X256.here hx rfl (hb hby d6_44) rfl rfl ?_
    exact kz
  refine OG.step s267 ?_
  obtain ⟨T268, X268, e268, st268⟩ := getF X256 hx hZ hown (host := "") (Or.inl (hw _ (List.mem_of_getElem? (i := 48) rfl))) Via.refl e256 f259 (g := (mkF m 45 #[.val (.ref a1), .val (.int (4 : Int32)), .val (.ref gv), .val (.int (3 : Int32))] [(.ref a1)])) rfl rfl (hb hby d6_45)
  refine OG.step st268 ?_
  show OG _ _ _ _ _ _ _ (T268.setTop (mkF m 48 #[.val (.ref a1), .val (.int (4 : Int32)), .val (.ref gv), .val (.int (3 : Int32))] [(.ref b12)]))
  have s269 : ∀ tz, Steps p.tables e below (T268.setTop (mkF m 50 #[.val (.ref a1), .val (.int (4 : Int32)), .val (.ref gv), .val (.int (3 : Int32))] [(.int (3 : Int32)), (.int (3 : Int32)), (.ref b12)])) tz → Steps p.tables e below (T268.setTop (mkF m 48 #[.val (.ref a1), .val (.int (4 : Int32)), .val (.ref gv), .val (.int (3 : Int32))] [(.ref b12)])) tz := by
    intro tz kz
    refine XS.iloadN X268.here hx rfl (hb hby d6_48) rfl ?_
    refine XS.iloadN X268.here hx rfl (hb hby d6_49) rfl ?_
    exact kz
  refine OG.step s269 ?_
  have av270 := f263
  obtain ⟨cl270, Ar270, qa_270, Sa_270, Nn_270, Ha_270, Ga_270⟩ := av270
  have hin270 : ¬ ((3 : Int32) < 0 ∨ cl270.slots.size ≤ ((3 : Int32)).toNatClampNeg) := inb_of Sa_270 ⟨(by decide), (by decide)⟩
  obtain ⟨T271, h271, X271, e271, W271, st271⟩ := stI X268 hx hZ e268 Ar270 (j := (3 : Int32)) hin270 (g := (mkF m 50 #[.val (.ref a1), .val (.int (4 : Int32)), .val (.ref gv), .val (.int (3 : Int32))] [(.int (3 : Int32)), (.int (3 : Int32)), (.ref b12)])) rfl rfl (hb hby d6_50)
  refine OG.step st271 ?_
  have Va271 := Arv.set Ar270 qa_270 Sa_270 Nn_270 Ha_270 Ga_270 rfl W271 (3) (by decide) (Nat.le_of_ble_eq_true rfl)
  have V271 : Arv Z h271 b12 k12 .int (4 : Int32) [(.int (0 : Int32)), (.int (1 : Int32)), (.int (2 : Int32)), (.int (3 : Int32))] (.int (0 : Int32)) := Va271
  have f272 := f257.wr W271
  have f273 := f258.other W271 (Or.inl ne12_a1)
  have f274 := f259.other W271 (Or.inl ne12_a1)
  have f275 := f260.other W271 (Or.inl ne12_a1)
  have f276 := f261.other W271 (Or.inl ne12_a1)
  have f277 := f262.other W271 (Or.inl ne12_a1)
  have f278 := f264.other W271 (Ne.symm ne28_b12)
  have f279 := f265.other W271 (Ne.symm ne46_b12)
  have f280 := V256.other W271 (Ne.symm ne66_b12)
  have K271 := K256.wr W271 (Or.inr sz12)
  have N271 := Fr.snoc X271 N256 ge12
  obtain ⟨Lz281, X271, N271⟩ : ∃ Lz, Stand p l e rom_6 s m #[(.ref a1), (.int (4 : Int32)), (.ref gv)] below meth c T271 Lz 4 16 ∧ Fr n0 Lz := ⟨_, X271, N271⟩
  show OG _ _ _ _ _ _ _ (T271.setTop (mkF m 51 #[.val (.ref a1), .val (.int (4 : Int32)), .val (.ref gv), .val (.int (3 : Int32))] []))
  have s282 : ∀ tz, Steps p.tables e below (T271.setTop (mkF m 52 #[.val (.ref a1), .val (.int (4 : Int32)), .val (.ref gv), .val (.int (3 : Int32))] [(.ref a1)])) tz → Steps p.tables e below (T271.setTop (mkF m 51 #[.val (.ref a1), .val (.int (4 : Int32)), .val (.ref gv), .val (.int (3 : Int32))] [])) tz := by
    intro tz kz
    refine XS.aloadN X271.here hx rfl (hb hby d6_51) rfl rfl ?_
    exact kz
  refine OG.step s282 ?_
  obtain ⟨T283, X283, e283, st283⟩ := getF X271 hx hZ hown (host := "") (Or.inl (hw _ (List.mem_of_getElem? (i := 50) rfl))) Via.refl e271 f275 (g := (mkF m 52 #[.val (.ref a1), .val (.int (4 : Int32)), .val (.ref gv), .val (.int (3 : Int32))] [(.ref a1)])) rfl rfl (hb hby d6_52)
  refine OG.step st283 ?_
  show OG _ _ _ _ _ _ _ (T283.setTop (mkF m 55 #[.val (.ref a1), .val (.int (4 : Int32)), .val (.ref gv), .val (.int (3 : Int32))] [(.ref b28)]))
  have s284 : ∀ tz, Steps p.tables e below (T283.setTop (mkF m 57 #[.val (.ref a1), .val (.int (4 : Int32)), .val (.ref gv), .val (.int (3 : Int32))] [(.int (1 : Int32)), (.int (3 : Int32)), (.ref b28)])) tz → Steps p.tables e below (T283.setTop (mkF m 55 #[.val (.ref a1), .val (.int (4 : Int32)), .val (.ref gv), .val (.int (3 : Int32))] [(.ref b28)])) tz := by
    intro tz kz
    refine XS.iloadN X283.here hx rfl (hb hby d6_55) rfl ?_
    refine XS.iconst X283.here hx rfl (hb hby d6_56) ?_
    exact kz
  refine OG.step s284 ?_
  have av285 := f278
  obtain ⟨cl285, Ar285, qa_285, Sa_285, Nn_285, Ha_285, Ga_285⟩ := av285
  have hin285 : ¬ ((3 : Int32) < 0 ∨ cl285.slots.size ≤ ((3 : Int32)).toNatClampNeg) := inb_of Sa_285 ⟨(by decide), (by decide)⟩
  obtain ⟨T286, h286, X286, e286, W286, st286⟩ := stI X283 hx hZ e283 Ar285 (j := (3 : Int32)) hin285 (g := (mkF m 57 #[.val (.ref a1), .val (.int (4 : Int32)), .val (.ref gv), .val (.int (3 : Int32))] [(.int (1 : Int32)), (.int (3 : Int32)), (.ref b28)])) rfl rfl (hb hby d6_57)
  refine OG.step st286 ?_
  have Va286 := Arv.set Ar285 qa_285 Sa_285 Nn_285 Ha_285 Ga_285 rfl W286 (3) (by decide) (Nat.le_of_ble_eq_true rfl)
  have V286 : Arv Z h286 b28 k28 .int (4 : Int32) [(.int (1 : Int32)), (.int (1 : Int32)), (.int (1 : Int32)), (.int (1 : Int32))] (.int (0 : Int32)) := Va286
  have f287 := f272.wr W286
  have f288 := f273.other W286 (Or.inl ne28_a1)
  have f289 := f274.other W286 (Or.inl ne28_a1)
  have f290 := f275.other W286 (Or.inl ne28_a1)
  have f291 := f276.other W286 (Or.inl ne28_a1)
  have f292 := f277.other W286 (Or.inl ne28_a1)
  have f293 := f279.other W286 (Ne.symm ne46_b28)
  have f294 := f280.other W286 (Ne.symm ne66_b28)
  have f295 := V271.other W286 ne28_b12
  have K286 := K271.wr W286 (Or.inr sz28)
  have N286 := Fr.snoc X286 N271 ge28
  obtain ⟨Lz296, X286, N286⟩ : ∃ Lz, Stand p l e rom_6 s m #[(.ref a1), (.int (4 : Int32)), (.ref gv)] below meth c T286 Lz 4 16 ∧ Fr n0 Lz := ⟨_, X286, N286⟩
  show OG _ _ _ _ _ _ _ (T286.setTop (mkF m 58 #[.val (.ref a1), .val (.int (4 : Int32)), .val (.ref gv), .val (.int (3 : Int32))] []))
  have s297 : ∀ tz, Steps p.tables e below (T286.setTop (mkF m 59 #[.val (.ref a1), .val (.int (4 : Int32)), .val (.ref gv), .val (.int (3 : Int32))] [(.ref a1)])) tz → Steps p.tables e below (T286.setTop (mkF m 58 #[.val (.ref a1), .val (.int (4 : Int32)), .val (.ref gv), .val (.int (3 : Int32))] [])) tz := by
    intro tz kz
    refine XS.aloadN X286.here hx rfl (hb hby d6_58) rfl rfl ?_
    exact kz
  refine OG.step s297 ?_
  obtain ⟨T298, X298, e298, st298⟩ := getF X286 hx hZ hown (host := "") (Or.inl (hw _ (List.mem_of_getElem? (i := 52) rfl))) Via.refl e286 f291 (g := (mkF m 59 #[.val (.ref a1), .val (.int (4 : Int32)), .val (.ref gv), .val (.int (3 : Int32))] [(.ref a1)])) rfl rfl (hb hby d6_59)
  refine OG.step st298 ?_
  show OG _ _ _ _ _ _ _ (T298.setTop (mkF m 62 #[.val (.ref a1), .val (.int (4 : Int32)), .val (.ref gv), .val (.int (3 : Int32))] [(.ref b46)]))
  have s299 : ∀ tz, Steps p.tables e below (T298.setTop (mkF m 64 #[.val (.ref a1), .val (.int (4 : Int32)), .val (.ref gv), .val (.int (3 : Int32))] [(.int (-1 : Int32)), (.int (3 : Int32)), (.ref b46)])) tz → Steps p.tables e below (T298.setTop (mkF m 62 #[.val (.ref a1), .val (.int (4 : Int32)), .val (.ref gv), .val (.int (3 : Int32))] [(.ref b46)])) tz := by
    intro tz kz
    refine XS.iloadN X298.here hx rfl (hb hby d6_62) rfl ?_
    refine XS.iconst X298.here hx rfl (hb hby d6_63) ?_
    exact kz
  refine OG.step s299 ?_
  have av300 := f293
  obtain ⟨cl300, Ar300, qa_300, Sa_300, Nn_300, Ha_300, Ga_300⟩ := av300
  have hin300 : ¬ ((3 : Int32) < 0 ∨ cl300.slots.size ≤ ((3 : Int32)).toNatClampNeg) := inb_of Sa_300 ⟨(by decide), (by decide)⟩
  obtain ⟨T301, h301, X301, e301, W301, st301⟩ := stI X298 hx hZ e298 Ar300 (j := (3 : Int32)) hin300 (g := (mkF m 64 #[.val (.ref a1), .val (.int (4 : Int32)), .val (.ref gv), .val (.int (3 : Int32))] [(.int (-1 : Int32)), (.int (3 : Int32)), (.ref b46)])) rfl rfl (hb hby d6_64)
  refine OG.step st301 ?_
  have Va301 := Arv.set Ar300 qa_300 Sa_300 Nn_300 Ha_300 Ga_300 rfl W301 (3) (by decide) (Nat.le_of_ble_eq_true rfl)
  have V301 : Arv Z h301 b46 k46 .int (4 : Int32) [(.int (-1 : Int32)), (.int (-1 : Int32)), (.int (-1 : Int32)), (.int (-1 : Int32))] (.int (0 : Int32)) := Va301
  have f302 := f287.wr W301
  have f303 := f288.other W301 (Or.inl ne46_a1)
  have f304 := f289.other W301 (Or.inl ne46_a1)
  have f305 := f290.other W301 (Or.inl ne46_a1)
  have f306 := f291.other W301 (Or.inl ne46_a1)
  have f307 := f292.other W301 (Or.inl ne46_a1)
  have f308 := f294.other W301 (Ne.symm ne66_b46)
  have f309 := f295.other W301 ne46_b12
  have f310 := V286.other W301 ne46_b28
  have K301 := K286.wr W301 (Or.inr sz46)
  have N301 := Fr.snoc X301 N286 ge46
  obtain ⟨Lz311, X301, N301⟩ : ∃ Lz, Stand p l e rom_6 s m #[(.ref a1), (.int (4 : Int32)), (.ref gv)] below meth c T301 Lz 4 16 ∧ Fr n0 Lz := ⟨_, X301, N301⟩
  show OG _ _ _ _ _ _ _ (T301.setTop (mkF m 65 #[.val (.ref a1), .val (.int (4 : Int32)), .val (.ref gv), .val (.int (3 : Int32))] []))
  have s312 : ∀ tz, Steps p.tables e below (T301.setTop (mkF m 66 #[.val (.ref a1), .val (.int (4 : Int32)), .val (.ref gv), .val (.int (3 : Int32))] [(.ref a1)])) tz → Steps p.tables e below (T301.setTop (mkF m 65 #[.val (.ref a1), .val (.int (4 : Int32)), .val (.ref gv), .val (.int (3 : Int32))] [])) tz := by
    intro tz kz
    refine XS.aloadN X301.here hx rfl (hb hby d6_65) rfl rfl ?_
    exact kz
  refine OG.step s312 ?_
  obtain ⟨T313, X313, e313, st313⟩ := getF X301 hx hZ hown (host := "") (Or.inl (hw _ (List.mem_of_getElem? (i := 54) rfl))) Via.refl e301 f307 (g := (mkF m 66 #[.val (.ref a1), .val (.int (4 : Int32)), .val (.ref gv), .val (.int (3 : Int32))] [(.ref a1)])) rfl rfl (hb hby d6_66)
  refine OG.step st313 ?_
  show OG _ _ _ _ _ _ _ (T313.setTop (mkF m 69 #[.val (.ref a1), .val (.int (4 : Int32)), .val (.ref gv), .val (.int (3 : Int32))] [(.ref b66)]))
  have s314 : ∀ tz, Steps p.tables e below (T313.setTop (mkF m 71 #[.val (.ref a1), .val (.int (4 : Int32)), .val (.ref gv), .val (.int (3 : Int32))] [(.int (3 : Int32)), (.int (3 : Int32)), (.ref b66)])) tz → Steps p.tables e below (T313.setTop (mkF m 69 #[.val (.ref a1), .val (.int (4 : Int32)), .val (.ref gv), .val (.int (3 : Int32))] [(.ref b66)])) tz := by
    intro tz kz
    refine XS.iloadN X313.here hx rfl (hb hby d6_69) rfl ?_
    refine XS.iloadN X313.here hx rfl (hb hby d6_70) rfl ?_
    exact kz
  refine OG.step s314 ?_
  have av315 := f308
  obtain ⟨cl315, Ar315, qa_315, Sa_315, Nn_315, Ha_315, Ga_315⟩ := av315
  have hin315 : ¬ ((3 : Int32) < 0 ∨ cl315.slots.size ≤ ((3 : Int32)).toNatClampNeg) := inb_of Sa_315 ⟨(by decide), (by decide)⟩
  obtain ⟨T316, h316, X316, e316, W316, st316⟩ := stI X313 hx hZ e313 Ar315 (j := (3 : Int32)) hin315 (g := (mkF m 71 #[.val (.ref a1), .val (.int (4 : Int32)), .val (.ref gv), .val (.int (3 : Int32))] [(.int (3 : Int32)), (.int (3 : Int32)), (.ref b66)])) rfl rfl (hb hby d6_71)
  refine OG.step st316 ?_
  have Va316 := Arv.set Ar315 qa_315 Sa_315 Nn_315 Ha_315 Ga_315 rfl W316 (3) (by decide) (Nat.le_of_ble_eq_true rfl)
  have V316 : Arv Z h316 b66 k66 .int (4 : Int32) [(.int (0 : Int32)), (.int (1 : Int32)), (.int (2 : Int32)), (.int (3 : Int32))] (.int (0 : Int32)) := Va316
  have f317 := f302.wr W316
  have f318 := f303.other W316 (Or.inl ne66_a1)
  have f319 := f304.other W316 (Or.inl ne66_a1)
  have f320 := f305.other W316 (Or.inl ne66_a1)
  have f321 := f306.other W316 (Or.inl ne66_a1)
  have f322 := f307.other W316 (Or.inl ne66_a1)
  have f323 := f309.other W316 ne66_b12
  have f324 := f310.other W316 ne66_b28
  have f325 := V301.other W316 ne66_b46
  have K316 := K301.wr W316 (Or.inr sz66)
  have N316 := Fr.snoc X316 N301 ge66
  obtain ⟨Lz326, X316, N316⟩ : ∃ Lz, Stand p l e rom_6 s m #[(.ref a1), (.int (4 : Int32)), (.ref gv)] below meth c T316 Lz 4 16 ∧ Fr n0 Lz := ⟨_, X316, N316⟩
  show OG _ _ _ _ _ _ _ (T316.setTop (mkF m 72 #[.val (.ref a1), .val (.int (4 : Int32)), .val (.ref gv), .val (.int (3 : Int32))] []))
  have s327 : ∀ tz, Steps p.tables e below (T316.setTop (mkF m 78 #[.val (.ref a1), .val (.int (4 : Int32)), .val (.ref gv), .val (.int (4 : Int32))] [])) tz → Steps p.tables e below (T316.setTop (mkF m 72 #[.val (.ref a1), .val (.int (4 : Int32)), .val (.ref gv), .val (.int (3 : Int32))] [])) tz := by
    intro tz kz
    refine XS.iinc X316.here hx rfl (hb hby d6_72) rfl (l' := #[.val (.ref a1), .val (.int (4 : Int32)), .val (.ref gv), .val (.int (4 : Int32))]) rfl ?_
    refine XS.goto X316.here hx rfl (pc0 := 75) (pc' := 39) rfl (hb hby d6_75) (by decide) (by decide) ?_
    refine XS.iloadN X316.here hx rfl (hb hby d6_39) rfl ?_
    refine XS.iloadN X316.here hx rfl (hb hby d6_40) rfl ?_
    refine XS.icmpYes X316.here hx rfl (pc0 := 41) (pc' := 78) rfl (hb hby d6_41) rfl (flt (by decide)).2.1 (by decide) (by decide) ?_
    exact kz
  refine OG.step s327 ?_
  exact OG.retV X316 hx hlk Bd.returns (hb hby d6_78) e316 ⟨b12, b28, b46, b66, k12, k28, k46, k66, rfl, N316, K316, f318, f319, f320, f321, f322, f323, f324, f325, V316, sz12, sz28, sz46, sz66, ne28_b12, ne46_b12, ne66_b12, ne46_b28, ne66_b28, ne66_b46⟩ (by decide) (by decide)
theorem d8_0 : decode prog_28_method_3_code 0 = .ok (.iload_n 1, 1) := by decide +kernel
theorem d8_1 : decode prog_28_method_3_code 1 = .ok (.istore_n 2, 1) := by decide +kernel
theorem d8_2 : decode prog_28_method_3_code 2 = .ok (.aload_n 0, 1) := by decide +kernel
theorem d8_3 : decode prog_28_method_3_code 3 = .ok (.getfield 13, 3) := by decide +kernel
theorem d8_6 : decode prog_28_method_3_code 6 = .ok (.iload_n 2, 1) := by decide +kernel
theorem d8_7 : decode prog_28_method_3_code 7 = .ok (.iaload, 1) := by decide +kernel
theorem d8_8 : decode prog_28_method_3_code 8 = .ok (.iload_n 2, 1) := by decide +kernel
theorem d8_9 : decode prog_28_method_3_code 9 = .ok (.if_icmp .eq 13, 3) := by decide +kernel
theorem d8_12 : decode prog_28_method_3_code 12 = .ok (.aload_n 0, 1) := by decide +kernel
theorem d8_13 : decode prog_28_method_3_code 13 = .ok (.getfield 13, 3) := by decide +kernel
theorem d8_16 : decode prog_28_method_3_code 16 = .ok (.iload_n 2, 1) := by decide +kernel
theorem d8_17 : decode prog_28_method_3_code 17 = .ok (.iaload, 1) := by decide +kernel
theorem d8_18 : decode prog_28_method_3_code 18 = .ok (.istore_n 2, 1) := by decide +kernel
theorem d8_19 : decode prog_28_method_3_code 19 = .ok (.goto (-17), 3) := by decide +kernel
theorem d8_22 : decode prog_28_method_3_code 22 = .ok (.iload_n 1, 1) := by decide +kernel
theorem d8_23 : decode prog_28_method_3_code 23 = .ok (.istore_n 3, 1) := by decide +kernel
theorem d8_24 : decode prog_28_method_3_code 24 = .ok (.iload_n 3, 1) := by decide +kernel
theorem d8_25 : decode prog_28_method_3_code 25 = .ok (.iload_n 2, 1) := by decide +kernel
theorem d8_26 : decode prog_28_method_3_code 26 = .ok (.if_icmp .eq 24, 3) := by decide +kernel
theorem d8_29 : decode prog_28_method_3_code 29 = .ok (.aload_n 0, 1) := by decide +kernel
theorem d8_30 : decode prog_28_method_3_code 30 = .ok (.getfield 13, 3) := by decide +kernel
theorem d8_33 : decode prog_28_method_3_code 33 = .ok (.iload_n 3, 1) := by decide +kernel
theorem d8_34 : decode prog_28_method_3_code 34 = .ok (.iaload, 1) := by decide +kernel
theorem d8_35 : decode prog_28_method_3_code 35 = .ok (.istore 4, 2) := by decide +kernel
theorem d8_37 : decode prog_28_method_3_code 37 = .ok (.aload_n 0, 1) := by decide +kernel
theorem d8_38 : decode prog_28_method_3_code 38 = .ok (.getfield 13, 3) := by decide +kernel
theorem d8_41 : decode prog_28_method_3_code 41 = .ok (.iload_n 3, 1) := by decide +kernel
theorem d8_42 : decode prog_28_method_3_code 42 = .ok (.iload_n 2, 1) := by decide +kernel
theorem d8_43 : decode prog_28_method_3_code 43 = .ok (.iastore, 1) := by decide +kernel
theorem d8_44 : decode prog_28_method_3_code 44 = .ok (.iload 4, 2) := by decide +kernel
theorem d8_46 : decode prog_28_method_3_code 46 = .ok (.istore_n 3, 1) := by decide +kernel
theorem d8_47 : decode prog_28_method_3_code 47 = .ok (.goto (-23), 3) := by decide +kernel
theorem d8_50 : decode prog_28_method_3_code 50 = .ok (.iload_n 2, 1) := by decide +kernel
theorem d8_51 : decode prog_28_method_3_code 51 = .ok (.ireturn, 1) := by decide +kernel
theorem ef_8 (m : MethodId) (x0 : Addr) (x1 : Int32) : entryFrame m #[(.ref x0), (.int x1)] 5 = mkF m 0 #[.val (.ref x0), .val (.int x1), .unset, .unset, .unset] [] := by first | (simp [entryFrame, mkF, argsToLocals, Value.category]; done) | rfl
def Q8 (Z : State) (a1 : Addr) (x : Nat) (ap : Addr) (kp : ClassId) (P : List Nat) (h0 : Heap) (n0 : Nat) (v : Option Value) (h : Heap) (L : List Loc) : Prop := (v = some (.int (Int32.ofNat (own_rt P 4 x)))) ∧ (Fr n0 L) ∧ (Keep h0 h [ap]) ∧ (Arv Z h ap kp .int (4 : Int32) (own_vl (own_fc P x)) (.int (0 : Int32)))
abbrev rom_8 : Room := { frames := 0, cells := 0, slots := 0, locals := 0 }
set_option maxRecDepth 65536 in
set_option maxHeartbeats 40000000 in
theorem rm8 (l : Launch) (Z : State) (a0 : Array Value) (hw : ∀ d ∈ tables_1, d.before a0 Z = true) (ws : List Jvm.Cond) (a1 : Addr) (x : Nat) (ap : Addr) (kp : ClassId) (P : List Nat) (h0 : Heap) (n0 : Nat) (Z0 : n0 ≤ h0.size) (F0_a1_parent : Fld Z h0 a1 "com/example/tidegraph/tidegraph/amd64/LiveRanges" "parent" "[I" (.ref ap)) (F1_ap : Arv Z h0 ap kp .int (4 : Int32) (own_vl P) (.int (0 : Int32))) (ne_a1_ap : a1 ≠ ap) (g_ap : n0 ≤ ap) (hx4 : x < 4) (hok : own_fok P x) :
    MetFree l (⟨"com/example/tidegraph/tidegraph/amd64/LiveRanges", "find", "(I)I"⟩ : MethodName) (head1 (Jvm.Cond.code (⟨"com/example/tidegraph/tidegraph/amd64/LiveRanges", "find", "(I)I"⟩ : MethodName) prog_28_method_3_code 5 (some .int) :: ws) rom_8) (fun a U => a = #[(.ref a1), (.int (Int32.ofNat x))] ∧ Z.Warmed39 U.vm ∧ U.heap = h0) (fun _ _ _ _ _ => True) (fun _ U o U' => ∃ v L, o = .returned v ∧ Q8 Z a1 x ap kp P h0 n0 v U'.heap L ∧ FrameEnd U o U' L rom_8.cells rom_8.slots) := by
  refine MetFree.of_bodySF (plainFor_of_name pn_com_example_tidegraph_tidegraph_amd64_LiveRanges) hisR ?_
  intro p e s m args below meth c s₁ Bd hml0 hP hK
  obtain ⟨rfl, hZ, hh⟩ := hP
  have hx := Bd.exec
  have hby := Bd.bytes
  have hlk := Bd.notSynchronized
  have hml : c.maxLocals = 5 := hml0
  have hown : s.vm.findClass "com/example/tidegraph/tidegraph/amd64/LiveRanges" = some m.cls := findClass_of_methodNamed Bd.named
  have hnm := (name_of_methodNamed Bd.named Bd.method).1
  have X0 : Stand p l e rom_8 s m #[(.ref a1), (.int (Int32.ofNat x))] below meth c s₁ [] 0 0 := Stand.of_body Bd
  have e0 : s₁.heap = h0 := by rw [← hh, Bd.state]; rfl
  have N0 := Fr.nil n0
  have K0 : Keep h0 h0 [ap] := Keep.refl _ _
  refine (?_ : OG p e below s (Q8 Z a1 x ap kp P h0 n0) rom_8.cells rom_8.slots _)
  rw [ef_8]
  have s1 : ∀ tz, Steps p.tables e below (s₁.setTop (mkF m 2 #[.val (.ref a1), .val (.int (Int32.ofNat x)), .val (.int (Int32.ofNat x)), .unset, .unset] [])) tz → Steps p.tables e below (s₁.setTop (mkF m 0 #[.val (.ref a1), .val (.int (Int32.ofNat x)), .unset, .unset, .unset] [])) tz := by
    intro tz kz
    refine XS.iloadN X0.here hx rfl (hb hby d8_0) rfl ?_
    refine XS.istoreN X0.here hx rfl (hb hby d8_1) rfl (l' := #[.val (.ref a1), .val (.int (Int32.ofNat x)), .val (.int (Int32.ofNat x)), .unset, .unset]) rfl ?_
    exact kz
  refine OG.step s1 ?_
  have J2 : ∀ (f : Nat) (y : Nat) (Tj2 : State) (Lj2 : List Loc), Stand p l e rom_8 s m #[(.ref a1), (.int (Int32.ofNat x))] below meth c Tj2 Lj2 0 0 → Tj2.heap = h0 → Fr n0 Lj2 → (y < 4) → (own_rt P f y = (own_rt P 4 x)) → OG p e below s (Q8 Z a1 x ap kp P h0 n0) rom_8.cells rom_8.slots (Tj2.setTop (mkF m 2 #[.val (.ref a1), .val (.int (Int32.ofNat x)), .val (.int (Int32.ofNat y)), .unset, .unset] [])) := by
    intro f
    induction f using Nat.strongRecOn with
    | _ f ih1 =>
      intro y Tj2 Lj2 Xj2 ej2 Nj2 hy hrt1
      have s3 : ∀ tz, Steps p.tables e below (Tj2.setTop (mkF m 3 #[.val (.ref a1), .val (.int (Int32.ofNat x)), .val (.int (Int32.ofNat y)), .unset, .unset] [(.ref a1)])) tz → Steps p.tables e below (Tj2.setTop (mkF m 2 #[.val (.ref a1), .val (.int (Int32.ofNat x)), .val (.int (Int32.ofNat y)), .unset, .unset] [])) tz := by
        intro tz kz
        refine XS.aloadN Xj2.here hx rfl (hb hby d8_2) rfl rfl ?_
        exact kz
      refine OG.step s3 ?_
      obtain ⟨T4, X4, e4, st4⟩ := getF Xj2 hx hZ hown (host := "") (Or.inl (hw _ (List.mem_of_getElem? (i := 48) rfl))) Via.refl ej2 F0_a1_parent (g := (mkF m 3 #[.val (.ref a1), .val (.int (Int32.ofNat x)), .val (.int (Int32.ofNat y)), .unset, .unset] [(.ref a1)])) rfl rfl (hb hby d8_3)
      refine OG.step st4 ?_
      show OG _ _ _ _ _ _ _ (T4.setTop (mkF m 6 #[.val (.ref a1), .val (.int (Int32.ofNat x)), .val (.int (Int32.ofNat y)), .unset, .unset] [(.ref ap)]))
      have s5 : ∀ tz, Steps p.tables e below (T4.setTop (mkF m 7 #[.val (.ref a1), .val (.int (Int32.ofNat x)), .val (.int (Int32.ofNat y)), .unset, .unset] [(.int (Int32.ofNat y)), (.ref ap)])) tz → Steps p.tables e below (T4.setTop (mkF m 6 #[.val (.ref a1), .val (.int (Int32.ofNat x)), .val (.int (Int32.ofNat y)), .unset, .unset] [(.ref ap)])) tz := by
        intro tz kz
        refine XS.iloadN X4.here hx rfl (hb hby d8_6) rfl ?_
        exact kz
      refine OG.step s5 ?_
      have av6 := F1_ap
      obtain ⟨cl6, Ar6, qa_6, Sa_6, Nn_6, Ha_6, Ga_6⟩ := av6
      have hin6 : ¬ ((Int32.ofNat y) < 0 ∨ cl6.slots.size ≤ ((Int32.ofNat y)).toNatClampNeg) := inb_of Sa_6 ⟨(own_x4 hy).1, (own_x4 hy).2.1⟩
      have hat6 : cl6.slots[((Int32.ofNat y)).toNatClampNeg]? = some (.int (Int32.ofNat (own_g P y))) := Ha_6.at hin6 (own_get hok.1.1 hy)
      refine OG.step (X4.iaload hx (j := (Int32.ofNat y)) (v := (.int (Int32.ofNat (own_g P y)))) (by rw [e4]; exact Ar6.1) (State.isArrayOf_alike hZ.alike Ar6.2.1) Ar6.2.2 hin6 hat6 (g := (mkF m 7 #[.val (.ref a1), .val (.int (Int32.ofNat x)), .val (.int (Int32.ofNat y)), .unset, .unset] [(.int (Int32.ofNat y)), (.ref ap)])) rfl rfl (hb hby d8_7)) ?_
      show OG _ _ _ _ _ _ _ (T4.setTop (mkF m 8 #[.val (.ref a1), .val (.int (Int32.ofNat x)), .val (.int (Int32.ofNat y)), .unset, .unset] [(.int (Int32.ofNat (own_g P y)))]))
      have s7 : ∀ tz, Steps p.tables e below (T4.setTop (mkF m 9 #[.val (.ref a1), .val (.int (Int32.ofNat x)), .val (.int (Int32.ofNat y)), .unset, .unset] [(.int (Int32.ofNat y)), (.int (Int32.ofNat (own_g P y)))])) tz → Steps p.tables e below (T4.setTop (mkF m 8 #[.val (.ref a1), .val (.int (Int32.ofNat x)), .val (.int (Int32.ofNat y)), .unset, .unset] [(.int (Int32.ofNat (own_g P y)))])) tz := by
        intro tz kz
        refine XS.iloadN X4.here hx rfl (hb hby d8_8) rfl ?_
        exact kz
      refine OG.step s7 ?_
      by_cases hc9 : (Int32.ofNat (own_g P y)) = (Int32.ofNat y)
      · have s8 : ∀ tz, Steps p.tables e below (T4.setTop (mkF m 22 #[.val (.ref a1), .val (.int (Int32.ofNat x)), .val (.int (Int32.ofNat y)), .unset, .unset] [])) tz → Steps p.tables e below (T4.setTop (mkF m 9 #[.val (.ref a1), .val (.int (Int32.ofNat x)), .val (.int (Int32.ofNat y)), .unset, .unset] [(.int (Int32.ofNat y)), (.int (Int32.ofNat (own_g P y)))])) tz := by
          intro tz kz
          refine XS.icmpYes X4.here hx rfl (pc0 := 9) (pc' := 22) rfl (hb hby d8_9) rfl (teq hc9).1 (by decide) (by decide) ?_
          exact kz
        refine OG.step s8 ?_
        have hyr : y = (own_rt P 4 x) := (own_rt_fix (own_e4 hok.1 hy hy hc9) f).symm.trans hrt1
        rw [hyr]
        show OG _ _ _ _ _ _ _ (T4.setTop (mkF m 22 #[.val (.ref a1), .val (.int (Int32.ofNat x)), .val (.int (Int32.ofNat (own_rt P 4 x))), .unset, .unset] []))
        have s9 : ∀ tz, Steps p.tables e below (T4.setTop (mkF m 24 #[.val (.ref a1), .val (.int (Int32.ofNat x)), .val (.int (Int32.ofNat (own_rt P 4 x))), .val (.int (Int32.ofNat x)), .unset] [])) tz → Steps p.tables e below (T4.setTop (mkF m 22 #[.val (.ref a1), .val (.int (Int32.ofNat x)), .val (.int (Int32.ofNat (own_rt P 4 x))), .unset, .unset] [])) tz := by
          intro tz kz
          refine XS.iloadN X4.here hx rfl (hb hby d8_22) rfl ?_
          refine XS.istoreN X4.here hx rfl (hb hby d8_23) rfl (l' := #[.val (.ref a1), .val (.int (Int32.ofNat x)), .val (.int (Int32.ofNat (own_rt P 4 x))), .val (.int (Int32.ofNat x)), .unset]) rfl ?_
          exact kz
        refine OG.step s9 ?_
        have s10 : ∀ tz, Steps p.tables e below (T4.setTop (mkF m 26 #[.val (.ref a1), .val (.int (Int32.ofNat x)), .val (.int (Int32.ofNat (own_rt P 4 x))), .val (.int (Int32.ofNat x)), .unset] [(.int (Int32.ofNat (own_rt P 4 x))), (.int (Int32.ofNat x))])) tz → Steps p.tables e below (T4.setTop (mkF m 24 #[.val (.ref a1), .val (.int (Int32.ofNat x)), .val (.int (Int32.ofNat (own_rt P 4 x))), .val (.int (Int32.ofNat x)), .unset] [])) tz := by
          intro tz kz
          refine XS.iloadN X4.here hx rfl (hb hby d8_24) rfl ?_
          refine XS.iloadN X4.here hx rfl (hb hby d8_25) rfl ?_
          exact kz
        refine OG.step s10 ?_
        by_cases hc26 : (Int32.ofNat x) = (Int32.ofNat (own_rt P 4 x))
        · have s11 : ∀ tz, Steps p.tables e below (T4.setTop (mkF m 51 #[.val (.ref a1), .val (.int (Int32.ofNat x)), .val (.int (Int32.ofNat (own_rt P 4 x))), .val (.int (Int32.ofNat x)), .unset] [(.int (Int32.ofNat (own_rt P 4 x)))])) tz → Steps p.tables e below (T4.setTop (mkF m 26 #[.val (.ref a1), .val (.int (Int32.ofNat x)), .val (.int (Int32.ofNat (own_rt P 4 x))), .val (.int (Int32.ofNat x)), .unset] [(.int (Int32.ofNat (own_rt P 4 x))), (.int (Int32.ofNat x))])) tz := by
            intro tz kz
            refine XS.icmpYes X4.here hx rfl (pc0 := 26) (pc' := 50) rfl (hb hby d8_26) rfl (teq hc26).1 (by decide) (by decide) ?_
            refine XS.iloadN X4.here hx rfl (hb hby d8_50) rfl ?_
            exact kz
          refine OG.step s11 ?_
          have hxr : x = (own_rt P 4 x) := own_eqn (by omega) (by have := hok.2.2.1; omega) hc26
          have hq : own_fc P x = P := by show own_cp (own_rt P 4 x) 4 P x = P; rw [← hxr]; exact own_cp_fix 4
          have Vf : Arv Z h0 ap kp .int (4 : Int32) (own_vl (own_fc P x)) (.int (0 : Int32)) := by rw [hq]; exact F1_ap
          exact OG.retI X4 hx hlk Bd.returns (hb hby d8_51) e4 ⟨rfl, Nj2, K0, Vf⟩ (by decide) (by decide)
        · have s12 : ∀ tz, Steps p.tables e below (T4.setTop (mkF m 30 #[.val (.ref a1), .val (.int (Int32.ofNat x)), .val (.int (Int32.ofNat (own_rt P 4 x))), .val (.int (Int32.ofNat x)), .unset] [(.ref a1)])) tz → Steps p.tables e below (T4.setTop (mkF m 26 #[.val (.ref a1), .val (.int (Int32.ofNat x)), .val (.int (Int32.ofNat (own_rt P 4 x))), .val (.int (Int32.ofNat x)), .unset] [(.int (Int32.ofNat (own_rt P 4 x))), (.int (Int32.ofNat x))])) tz := by
            intro tz kz
            refine XS.icmpNo X4.here hx rfl (hb hby d8_26) rfl (feq hc26).1 ?_
            refine XS.aloadN X4.here hx rfl (hb hby d8_29) rfl rfl ?_
            exact kz
          refine OG.step s12 ?_
          obtain ⟨T13, X13, e13, st13⟩ := getF X4 hx hZ hown (host := "") (Or.inl (hw _ (List.mem_of_getElem? (i := 48) rfl))) Via.refl e4 F0_a1_parent (g := (mkF m 30 #[.val (.ref a1), .val (.int (Int32.ofNat x)), .val (.int (Int32.ofNat (own_rt P 4 x))), .val (.int (Int32.ofNat x)), .unset] [(.ref a1)])) rfl rfl (hb hby d8_30)
          refine OG.step st13 ?_
          show OG _ _ _ _ _ _ _ (T13.setTop (mkF m 33 #[.val (.ref a1), .val (.int (Int32.ofNat x)), .val (.int (Int32.ofNat (own_rt P 4 x))), .val (.int (Int32.ofNat x)), .unset] [(.ref ap)]))
          have s14 : ∀ tz, Steps p.tables e below (T13.setTop (mkF m 34 #[.val (.ref a1), .val (.int (Int32.ofNat x)), .val (.int (Int32.ofNat (own_rt P 4 x))), .val (.int (Int32.ofNat x)), .unset] [(.int (Int32.ofNat x)), (.ref ap)])) tz → Steps p.tables e below (T13.setTop (mkF m 33 #[.val (.ref a1), .val (.int (Int32.ofNat x)), .val (.int (Int32.ofNat (own_rt P 4 x))), .val (.int (Int32.ofNat x)), .unset] [(.ref ap)])) tz := by
            intro tz kz
            refine XS.iloadN X13.here hx rfl (hb hby d8_33) rfl ?_
            exact kz
          refine OG.step s14 ?_
          have av15 := F1_ap
          obtain ⟨cl15, Ar15, qa_15, Sa_15, Nn_15, Ha_15, Ga_15⟩ := av15
          have hin15 : ¬ ((Int32.ofNat x) < 0 ∨ cl15.slots.size ≤ ((Int32.ofNat x)).toNatClampNeg) := inb_of Sa_15 ⟨(own_x4 hx4).1, (own_x4 hx4).2.1⟩
          have hat15 : cl15.slots[((Int32.ofNat x)).toNatClampNeg]? = some (.int (Int32.ofNat (own_g P x))) := Ha_15.at hin15 (own_get hok.1.1 hx4)
          refine OG.step (X13.iaload hx (j := (Int32.ofNat x)) (v := (.int (Int32.ofNat (own_g P x)))) (by rw [e13]; exact Ar15.1) (State.isArrayOf_alike hZ.alike Ar15.2.1) Ar15.2.2 hin15 hat15 (g := (mkF m 34 #[.val (.ref a1), .val (.int (Int32.ofNat x)), .val (.int (Int32.ofNat (own_rt P 4 x))), .val (.int (Int32.ofNat x)), .unset] [(.int (Int32.ofNat x)), (.ref ap)])) rfl rfl (hb hby d8_34)) ?_
          show OG _ _ _ _ _ _ _ (T13.setTop (mkF m 35 #[.val (.ref a1), .val (.int (Int32.ofNat x)), .val (.int (Int32.ofNat (own_rt P 4 x))), .val (.int (Int32.ofNat x)), .unset] [(.int (Int32.ofNat (own_g P x)))]))
          have s16 : ∀ tz, Steps p.tables e below (T13.setTop (mkF m 38 #[.val (.ref a1), .val (.int (Int32.ofNat x)), .val (.int (Int32.ofNat (own_rt P 4 x))), .val (.int (Int32.ofNat x)), .val (.int (Int32.ofNat (own_g P x)))] [(.ref a1)])) tz → Steps p.tables e below (T13.setTop (mkF m 35 #[.val (.ref a1), .val (.int (Int32.ofNat x)), .val (.int (Int32.ofNat (own_rt P 4 x))), .val (.int (Int32.ofNat x)), .unset] [(.int (Int32.ofNat (own_g P x)))])) tz := by
            intro tz kz
            refine XS.istore X13.here hx rfl (hb hby d8_35) rfl (l' := #[.val (.ref a1), .val (.int (Int32.ofNat x)), .val (.int (Int32.ofNat (own_rt P 4 x))), .val (.int (Int32.ofNat x)), .val (.int (Int32.ofNat (own_g P x)))]) rfl ?_
            refine XS.aloadN X13.here hx rfl (hb hby d8_37) rfl rfl ?_
            exact kz
          refine OG.step s16 ?_
          obtain ⟨T17, X17, e17, st17⟩ := getF X13 hx hZ hown (host := "") (Or.inl (hw _ (List.mem_of_getElem? (i := 48) rfl))) Via.refl e13 F0_a1_parent (g := (mkF m 38 #[.val (.ref a1), .val (.int (Int32.ofNat x)), .val (.int (Int32.ofNat (own_rt P 4 x))), .val (.int (Int32.ofNat x)), .val (.int (Int32.ofNat (own_g P x)))] [(.ref a1)])) rfl rfl (hb hby d8_38)
          refine OG.step st17 ?_
          show OG _ _ _ _ _ _ _ (T17.setTop (mkF m 41 #[.val (.ref a1), .val (.int (Int32.ofNat x)), .val (.int (Int32.ofNat (own_rt P 4 x))), .val (.int (Int32.ofNat x)), .val (.int (Int32.ofNat (own_g P x)))] [(.ref ap)]))
          have s18 : ∀ tz, Steps p.tables e below (T17.setTop (mkF m 43 #[.val (.ref a1), .val (.int (Int32.ofNat x)), .val (.int (Int32.ofNat (own_rt P 4 x))), .val (.int (Int32.ofNat x)), .val (.int (Int32.ofNat (own_g P x)))] [(.int (Int32.ofNat (own_rt P 4 x))), (.int (Int32.ofNat x)), (.ref ap)])) tz → Steps p.tables e below (T17.setTop (mkF m 41 #[.val (.ref a1), .val (.int (Int32.ofNat x)), .val (.int (Int32.ofNat (own_rt P 4 x))), .val (.int (Int32.ofNat x)), .val (.int (Int32.ofNat (own_g P x)))] [(.ref ap)])) tz := by
            intro tz kz
            refine XS.iloadN X17.here hx rfl (hb hby d8_41) rfl ?_
            refine XS.iloadN X17.here hx rfl (hb hby d8_42) rfl ?_
            exact kz
          refine OG.step s18 ?_
          have av19 := F1_ap
          obtain ⟨cl19, Ar19, qa_19, Sa_19, Nn_19, Ha_19, Ga_19⟩ := av19
          have hin19 : ¬ ((Int32.ofNat x) < 0 ∨ cl19.slots.size ≤ ((Int32.ofNat x)).toNatClampNeg) := inb_of Sa_19 ⟨(own_x4 hx4).1, (own_x4 hx4).2.1⟩
          obtain ⟨T20, h20, X20, e20, W20, st20⟩ := stI X17 hx hZ e17 Ar19 (j := (Int32.ofNat x)) hin19 (g := (mkF m 43 #[.val (.ref a1), .val (.int (Int32.ofNat x)), .val (.int (Int32.ofNat (own_rt P 4 x))), .val (.int (Int32.ofNat x)), .val (.int (Int32.ofNat (own_g P x)))] [(.int (Int32.ofNat (own_rt P 4 x))), (.int (Int32.ofNat x)), (.ref ap)])) rfl rfl (hb hby d8_43)
          refine OG.step st20 ?_
          have Va20 := Arv.set Ar19 qa_19 Sa_19 Nn_19 Ha_19 Ga_19 rfl W20 (x) (own_x4 hx4).2.2 (own_len hok.1.1 hx4)
          have Va20 : Arv Z h20 ap kp .int (4 : Int32) ((own_vl P).set x (.int (Int32.ofNat (own_rt P 4 x)))) (.int (0 : Int32)) := Va20
          have V20 : Arv Z h20 ap kp .int (4 : Int32) (own_vl (P.set x (own_rt P 4 x))) (.int (0 : Int32)) := by rw [own_set P x (own_rt P 4 x)] at Va20; exact Va20
          have f21 := F0_a1_parent.other W20 (Or.inl ne_a1_ap)
          have K20 := K0.wr W20 (Or.inl (List.mem_of_getElem? (i := 0) rfl))
          have N20 := Fr.snoc X20 Nj2 g_ap
          obtain ⟨Lz22, X20, N20⟩ : ∃ Lz, Stand p l e rom_8 s m #[(.ref a1), (.int (Int32.ofNat x))] below meth c T20 Lz 0 0 ∧ Fr n0 Lz := ⟨_, X20, N20⟩
          show OG _ _ _ _ _ _ _ (T20.setTop (mkF m 44 #[.val (.ref a1), .val (.int (Int32.ofNat x)), .val (.int (Int32.ofNat (own_rt P 4 x))), .val (.int (Int32.ofNat x)), .val (.int (Int32.ofNat (own_g P x)))] []))
          have s23 : ∀ tz, Steps p.tables e below (T20.setTop (mkF m 24 #[.val (.ref a1), .val (.int (Int32.ofNat x)), .val (.int (Int32.ofNat (own_rt P 4 x))), .val (.int (Int32.ofNat (own_g P x))), .val (.int (Int32.ofNat (own_g P x)))] [])) tz → Steps p.tables e below (T20.setTop (mkF m 44 #[.val (.ref a1), .val (.int (Int32.ofNat x)), .val (.int (Int32.ofNat (own_rt P 4 x))), .val (.int (Int32.ofNat x)), .val (.int (Int32.ofNat (own_g P x)))] [])) tz := by
            intro tz kz
            refine XS.iload X20.here hx rfl (hb hby d8_44) rfl ?_
            refine XS.istoreN X20.here hx rfl (hb hby d8_46) rfl (l' := #[.val (.ref a1), .val (.int (Int32.ofNat x)), .val (.int (Int32.ofNat (own_rt P 4 x))), .val (.int (Int32.ofNat (own_g P x))), .val (.int (Int32.ofNat (own_g P x)))]) rfl ?_
            refine XS.goto X20.here hx rfl (pc0 := 47) (pc' := 24) rfl (hb hby d8_47) (by decide) (by decide) ?_
            exact kz
          refine OG.step s23 ?_
          obtain ⟨f1, hf1, he1, hp1⟩ := own_ce_step hok.2.2.2 (fun z => hc26 (congrArg Int32.ofNat z))
          have J24 : ∀ (f2 : Nat) (y2 : Nat) (Q2_ : List Nat) (w2 : Int32) (Hj24 : Heap) (Tj24 : State) (Lj24 : List Loc), Stand p l e rom_8 s m #[(.ref a1), (.int (Int32.ofNat x))] below meth c Tj24 Lj24 0 0 → Tj24.heap = Hj24 → Fr n0 Lj24 → (Keep h0 Hj24 [ap]) → (Fld Z Hj24 a1 "com/example/tidegraph/tidegraph/amd64/LiveRanges" "parent" "[I" (.ref ap)) → (Arv Z Hj24 ap kp .int (4 : Int32) (own_vl Q2_) (.int (0 : Int32))) → (y2 < 4) → (own_rg Q2_) → (own_ce (own_rt P 4 x) f2 Q2_ y2 = (own_rt P 4 x)) → (own_cp (own_rt P 4 x) f2 Q2_ y2 = own_fc P x) → OG p e below s (Q8 Z a1 x ap kp P h0 n0) rom_8.cells rom_8.slots (Tj24.setTop (mkF m 24 #[.val (.ref a1), .val (.int (Int32.ofNat x)), .val (.int (Int32.ofNat (own_rt P 4 x))), .val (.int (Int32.ofNat y2)), .val (.int w2)] [])) := by
            intro f2
            induction f2 using Nat.strongRecOn with
            | _ f2 ih2 =>
              intro y2 Q2_ w2 Hj24 Tj24 Lj24 Xj24 ej24 Nj24 Kj24 fj24_0 fj24_1 hy2 hQ hend hfin
              have s25 : ∀ tz, Steps p.tables e below (Tj24.setTop (mkF m 26 #[.val (.ref a1), .val (.int (Int32.ofNat x)), .val (.int (Int32.ofNat (own_rt P 4 x))), .val (.int (Int32.ofNat y2)), .val (.int w2)] [(.int (Int32.ofNat (own_rt P 4 x))), (.int (Int32.ofNat y2))])) tz → Steps p.tables e below (Tj24.setTop (mkF m 24 #[.val (.ref a1), .val (.int (Int32.ofNat x)), .val (.int (Int32.ofNat (own_rt P 4 x))), .val (.int (Int32.ofNat y2)), .val (.int w2)] [])) tz := by
                intro tz kz
                refine XS.iloadN Xj24.here hx rfl (hb hby d8_24) rfl ?_
                refine XS.iloadN Xj24.here hx rfl (hb hby d8_25) rfl ?_
                exact kz
              refine OG.step s25 ?_
              by_cases hc26 : (Int32.ofNat y2) = (Int32.ofNat (own_rt P 4 x))
              · have s26 : ∀ tz, Steps p.tables e below (Tj24.setTop (mkF m 51 #[.val (.ref a1), .val (.int (Int32.ofNat x)), .val (.int (Int32.ofNat (own_rt P 4 x))), .val (.int (Int32.ofNat y2)), .val (.int w2)] [(.int (Int32.ofNat (own_rt P 4 x)))])) tz → Steps p.tables e below (Tj24.setTop (mkF m 26 #[.val (.ref a1), .val (.int (Int32.ofNat x)), .val (.int (Int32.ofNat (own_rt P 4 x))), .val (.int (Int32.ofNat y2)), .val (.int w2)] [(.int (Int32.ofNat (own_rt P 4 x))), (.int (Int32.ofNat y2))])) tz := by
                  intro tz kz
                  refine XS.icmpYes Xj24.here hx rfl (pc0 := 26) (pc' := 50) rfl (hb hby d8_26) rfl (teq hc26).1 (by decide) (by decide) ?_
                  refine XS.iloadN Xj24.here hx rfl (hb hby d8_50) rfl ?_
                  exact kz
                refine OG.step s26 ?_
                have hxr : y2 = (own_rt P 4 x) := own_eqn (by omega) (by have := hok.2.2.1; omega) hc26
                have hq : own_fc P x = Q2_ := hfin.symm.trans (by rw [hxr]; exact own_cp_fix f2)
                have Vf : Arv Z Hj24 ap kp .int (4 : Int32) (own_vl (own_fc P x)) (.int (0 : Int32)) := by rw [hq]; exact fj24_1
                exact OG.retI Xj24 hx hlk Bd.returns (hb hby d8_51) ej24 ⟨rfl, Nj24, Kj24, Vf⟩ (by decide) (by decide)
              · have s27 : ∀ tz, Steps p.tables e below (Tj24.setTop (mkF m 30 #[.val (.ref a1), .val (.int (Int32.ofNat x)), .val (.int (Int32.ofNat (own_rt P 4 x))), .val (.int (Int32.ofNat y2)), .val (.int w2)] [(.ref a1)])) tz → Steps p.tables e below (Tj24.setTop (mkF m 26 #[.val (.ref a1), .val (.int (Int32.ofNat x)), .val (.int (Int32.ofNat (own_rt P 4 x))), .val (.int (Int32.ofNat y2)), .val (.int w2)] [(.int (Int32.ofNat (own_rt P 4 x))), (.int (Int32.ofNat y2))])) tz := by
                  intro tz kz
                  refine XS.icmpNo Xj24.here hx rfl (hb hby d8_26) rfl (feq hc26).1 ?_
                  refine XS.aloadN Xj24.here hx rfl (hb hby d8_29) rfl rfl ?_
                  exact kz
                refine OG.step s27 ?_
                obtain ⟨T28, X28, e28, st28⟩ := getF Xj24 hx hZ hown (host := "") (Or.inl (hw _ (List.mem_of_getElem? (i := 48) rfl))) Via.refl ej24 fj24_0 (g := (mkF m 30 #[.val (.ref a1), .val (.int (Int32.ofNat x)), .val (.int (Int32.ofNat (own_rt P 4 x))), .val (.int (Int32.ofNat y2)), .val (.int w2)] [(.ref a1)])) rfl rfl (hb hby d8_30)
                refine OG.step st28 ?_
                show OG _ _ _ _ _ _ _ (T28.setTop (mkF m 33 #[.val (.ref a1), .val (.int (Int32.ofNat x)), .val (.int (Int32.ofNat (own_rt P 4 x))), .val (.int (Int32.ofNat y2)), .val (.int w2)] [(.ref ap)]))
                have s29 : ∀ tz, Steps p.tables e below (T28.setTop (mkF m 34 #[.val (.ref a1), .val (.int (Int32.ofNat x)), .val (.int (Int32.ofNat (own_rt P 4 x))), .val (.int (Int32.ofNat y2)), .val (.int w2)] [(.int (Int32.ofNat y2)), (.ref ap)])) tz → Steps p.tables e below (T28.setTop (mkF m 33 #[.val (.ref a1), .val (.int (Int32.ofNat x)), .val (.int (Int32.ofNat (own_rt P 4 x))), .val (.int (Int32.ofNat y2)), .val (.int w2)] [(.ref ap)])) tz := by
                  intro tz kz
                  refine XS.iloadN X28.here hx rfl (hb hby d8_33) rfl ?_
                  exact kz
                refine OG.step s29 ?_
                have av30 := fj24_1
                obtain ⟨cl30, Ar30, qa_30, Sa_30, Nn_30, Ha_30, Ga_30⟩ := av30
                have hin30 : ¬ ((Int32.ofNat y2) < 0 ∨ cl30.slots.size ≤ ((Int32.ofNat y2)).toNatClampNeg) := inb_of Sa_30 ⟨(own_x4 hy2).1, (own_x4 hy2).2.1⟩
                have hat30 : cl30.slots[((Int32.ofNat y2)).toNatClampNeg]? = some (.int (Int32.ofNat (own_g Q2_ y2))) := Ha_30.at hin30 (own_get hQ.1 hy2)
                refine OG.step (X28.iaload hx (j := (Int32.ofNat y2)) (v := (.int (Int32.ofNat (own_g Q2_ y2)))) (by rw [e28]; exact Ar30.1) (State.isArrayOf_alike hZ.alike Ar30.2.1) Ar30.2.2 hin30 hat30 (g := (mkF m 34 #[.val (.ref a1), .val (.int (Int32.ofNat x)), .val (.int (Int32.ofNat (own_rt P 4 x))), .val (.int (Int32.ofNat y2)), .val (.int w2)] [(.int (Int32.ofNat y2)), (.ref ap)])) rfl rfl (hb hby d8_34)) ?_
                show OG _ _ _ _ _ _ _ (T28.setTop (mkF m 35 #[.val (.ref a1), .val (.int (Int32.ofNat x)), .val (.int (Int32.ofNat (own_rt P 4 x))), .val (.int (Int32.ofNat y2)), .val (.int w2)] [(.int (Int32.ofNat (own_g Q2_ y2)))]))
                have s31 : ∀ tz, Steps p.tables e below (T28.setTop (mkF m 38 #[.val (.ref a1), .val (.int (Int32.ofNat x)), .val (.int (Int32.ofNat (own_rt P 4 x))), .val (.int (Int32.ofNat y2)), .val (.int (Int32.ofNat (own_g Q2_ y2)))] [(.ref a1)])) tz → Steps p.tables e below (T28.setTop (mkF m 35 #[.val (.ref a1), .val (.int (Int32.ofNat x)), .val (.int (Int32.ofNat (own_rt P 4 x))), .val (.int (Int32.ofNat y2)), .val (.int w2)] [(.int (Int32.ofNat (own_g Q2_ y2)))])) tz := by
                  intro tz kz
                  refine XS.istore X28.here hx rfl (hb hby d8_35) rfl (l' := #[.val (.ref a1), .val (.int (Int32.ofNat x)), .val (.int (Int32.ofNat (own_rt P 4 x))), .val (.int (Int32.ofNat y2)), .val (.int (Int32.ofNat (own_g Q2_ y2)))]) rfl ?_
                  refine XS.aloadN X28.here hx rfl (hb hby d8_37) rfl rfl ?_
                  exact kz
                refine OG.step s31 ?_
                obtain ⟨T32, X32, e32, st32⟩ := getF X28 hx hZ hown (host := "") (Or.inl (hw _ (List.mem_of_getElem? (i := 48) rfl))) Via.refl e28 fj24_0 (g := (mkF m 38 #[.val (.ref a1), .val (.int (Int32.ofNat x)), .val (.int (Int32.ofNat (own_rt P 4 x))), .val (.int (Int32.ofNat y2)), .val (.int (Int32.ofNat (own_g Q2_ y2)))] [(.ref a1)])) rfl rfl (hb hby d8_38)
                refine OG.step st32 ?_
                show OG _ _ _ _ _ _ _ (T32.setTop (mkF m 41 #[.val (.ref a1), .val (.int (Int32.ofNat x)), .val (.int (Int32.ofNat (own_rt P 4 x))), .val (.int (Int32.ofNat y2)), .val (.int (Int32.ofNat (own_g Q2_ y2)))] [(.ref ap)]))
                have s33 : ∀ tz, Steps p.tables e below (T32.setTop (mkF m 43 #[.val (.ref a1), .val (.int (Int32.ofNat x)), .val (.int (Int32.ofNat (own_rt P 4 x))), .val (.int (Int32.ofNat y2)), .val (.int (Int32.ofNat (own_g Q2_ y2)))] [(.int (Int32.ofNat (own_rt P 4 x))), (.int (Int32.ofNat y2)), (.ref ap)])) tz → Steps p.tables e below (T32.setTop (mkF m 41 #[.val (.ref a1), .val (.int (Int32.ofNat x)), .val (.int (Int32.ofNat (own_rt P 4 x))), .val (.int (Int32.ofNat y2)), .val (.int (Int32.ofNat (own_g Q2_ y2)))] [(.ref ap)])) tz := by
                  intro tz kz
                  refine XS.iloadN X32.here hx rfl (hb hby d8_41) rfl ?_
                  refine XS.iloadN X32.here hx rfl (hb hby d8_42) rfl ?_
                  exact kz
                refine OG.step s33 ?_
                have av34 := fj24_1
                obtain ⟨cl34, Ar34, qa_34, Sa_34, Nn_34, Ha_34, Ga_34⟩ := av34
                have hin34 : ¬ ((Int32.ofNat y2) < 0 ∨ cl34.slots.size ≤ ((Int32.ofNat y2)).toNatClampNeg) := inb_of Sa_34 ⟨(own_x4 hy2).1, (own_x4 hy2).2.1⟩
                obtain ⟨T35, h35, X35, e35, W35, st35⟩ := stI X32 hx hZ e32 Ar34 (j := (Int32.ofNat y2)) hin34 (g := (mkF m 43 #[.val (.ref a1), .val (.int (Int32.ofNat x)), .val (.int (Int32.ofNat (own_rt P 4 x))), .val (.int (Int32.ofNat y2)), .val (.int (Int32.ofNat (own_g Q2_ y2)))] [(.int (Int32.ofNat (own_rt P 4 x))), (.int (Int32.ofNat y2)), (.ref ap)])) rfl rfl (hb hby d8_43)
                refine OG.step st35 ?_
                have Va35 := Arv.set Ar34 qa_34 Sa_34 Nn_34 Ha_34 Ga_34 rfl W35 (y2) (own_x4 hy2).2.2 (own_len hQ.1 hy2)
                have Va35 : Arv Z h35 ap kp .int (4 : Int32) ((own_vl Q2_).set y2 (.int (Int32.ofNat (own_rt P 4 x)))) (.int (0 : Int32)) := Va35
                have V35 : Arv Z h35 ap kp .int (4 : Int32) (own_vl (Q2_.set y2 (own_rt P 4 x))) (.int (0 : Int32)) := by rw [own_set Q2_ y2 (own_rt P 4 x)] at Va35; exact Va35
                have f36 := fj24_0.other W35 (Or.inl ne_a1_ap)
                have K35 := Kj24.wr W35 (Or.inl (List.mem_of_getElem? (i := 0) rfl))
                have N35 := Fr.snoc X35 Nj24 g_ap
                obtain ⟨Lz37, X35, N35⟩ : ∃ Lz, Stand p l e rom_8 s m #[(.ref a1), (.int (Int32.ofNat x))] below meth c T35 Lz 0 0 ∧ Fr n0 Lz := ⟨_, X35, N35⟩
                show OG _ _ _ _ _ _ _ (T35.setTop (mkF m 44 #[.val (.ref a1), .val (.int (Int32.ofNat x)), .val (.int (Int32.ofNat (own_rt P 4 x))), .val (.int (Int32.ofNat y2)), .val (.int (Int32.ofNat (own_g Q2_ y2)))] []))
                have s38 : ∀ tz, Steps p.tables e below (T35.setTop (mkF m 24 #[.val (.ref a1), .val (.int (Int32.ofNat x)), .val (.int (Int32.ofNat (own_rt P 4 x))), .val (.int (Int32.ofNat (own_g Q2_ y2))), .val (.int (Int32.ofNat (own_g Q2_ y2)))] [])) tz → Steps p.tables e below (T35.setTop (mkF m 44 #[.val (.ref a1), .val (.int (Int32.ofNat x)), .val (.int (Int32.ofNat (own_rt P 4 x))), .val (.int (Int32.ofNat y2)), .val (.int (Int32.ofNat (own_g Q2_ y2)))] [])) tz := by
                  intro tz kz
                  refine XS.iload X35.here hx rfl (hb hby d8_44) rfl ?_
                  refine XS.istoreN X35.here hx rfl (hb hby d8_46) rfl (l' := #[.val (.ref a1), .val (.int (Int32.ofNat x)), .val (.int (Int32.ofNat (own_rt P 4 x))), .val (.int (Int32.ofNat (own_g Q2_ y2))), .val (.int (Int32.ofNat (own_g Q2_ y2)))]) rfl ?_
                  refine XS.goto X35.here hx rfl (pc0 := 47) (pc' := 24) rfl (hb hby d8_47) (by decide) (by decide) ?_
                  exact kz
                refine OG.step s38 ?_
                obtain ⟨f3, hf3, he3, hp3⟩ := own_ce_step hend (fun z => hc26 (congrArg Int32.ofNat z))
                exact ih2 f3 (by omega) (own_g Q2_ y2) (Q2_.set y2 (own_rt P 4 x)) _ _ _ _ X35 e35 N35 K35 f36 V35 (hQ.2 y2 hy2) (own_rgset hQ hok.2.2.1) he3 (hp3.symm.trans hfin)
          exact J24 f1 (own_g P x) (P.set x (own_rt P 4 x)) _ _ _ _ X20 e20 N20 K20 f21 V20 (hok.1.2 x hx4) (own_rgset hok.1 hok.2.2.1) he1 hp1.symm
      · have s39 : ∀ tz, Steps p.tables e below (T4.setTop (mkF m 13 #[.val (.ref a1), .val (.int (Int32.ofNat x)), .val (.int (Int32.ofNat y)), .unset, .unset] [(.ref a1)])) tz → Steps p.tables e below (T4.setTop (mkF m 9 #[.val (.ref a1), .val (.int (Int32.ofNat x)), .val (.int (Int32.ofNat y)), .unset, .unset] [(.int (Int32.ofNat y)), (.int (Int32.ofNat (own_g P y)))])) tz := by
          intro tz kz
          refine XS.icmpNo X4.here hx rfl (hb hby d8_9) rfl (feq hc9).1 ?_
          refine XS.aloadN X4.here hx rfl (hb hby d8_12) rfl rfl ?_
          exact kz
        refine OG.step s39 ?_
        obtain ⟨T40, X40, e40, st40⟩ := getF X4 hx hZ hown (host := "") (Or.inl (hw _ (List.mem_of_getElem? (i := 48) rfl))) Via.refl e4 F0_a1_parent (g := (mkF m 13 #[.val (.ref a1), .val (.int (Int32.ofNat x)), .val (.int (Int32.ofNat y)), .unset, .unset] [(.ref a1)])) rfl rfl (hb hby d8_13)
        refine OG.step st40 ?_
        show OG _ _ _ _ _ _ _ (T40.setTop (mkF m 16 #[.val (.ref a1), .val (.int (Int32.ofNat x)), .val (.int (Int32.ofNat y)), .unset, .unset] [(.ref ap)]))
        have s41 : ∀ tz, Steps p.tables e below (T40.setTop (mkF m 17 #[.val (.ref a1), .val (.int (Int32.ofNat x)), .val (.int (Int32.ofNat y)), .unset, .unset] [(.int (Int32.ofNat y)), (.ref ap)])) tz → Steps p.tables e below (T40.setTop (mkF m 16 #[.val (.ref a1), .val (.int (Int32.ofNat x)), .val (.int (Int32.ofNat y)), .unset, .unset] [(.ref ap)])) tz := by
          intro tz kz
          refine XS.iloadN X40.here hx rfl (hb hby d8_16) rfl ?_
          exact kz
        refine OG.step s41 ?_
        have av42 := F1_ap
        obtain ⟨cl42, Ar42, qa_42, Sa_42, Nn_42, Ha_42, Ga_42⟩ := av42
        have hin42 : ¬ ((Int32.ofNat y) < 0 ∨ cl42.slots.size ≤ ((Int32.ofNat y)).toNatClampNeg) := inb_of Sa_42 ⟨(own_x4 hy).1, (own_x4 hy).2.1⟩
        have hat42 : cl42.slots[((Int32.ofNat y)).toNatClampNeg]? = some (.int (Int32.ofNat (own_g P y))) := Ha_42.at hin42 (own_get hok.1.1 hy)
        refine OG.step (X40.iaload hx (j := (Int32.ofNat y)) (v := (.int (Int32.ofNat (own_g P y)))) (by rw [e40]; exact Ar42.1) (State.isArrayOf_alike hZ.alike Ar42.2.1) Ar42.2.2 hin42 hat42 (g := (mkF m 17 #[.val (.ref a1), .val (.int (Int32.ofNat x)), .val (.int (Int32.ofNat y)), .unset, .unset] [(.int (Int32.ofNat y)), (.ref ap)])) rfl rfl (hb hby d8_17)) ?_
        show OG _ _ _ _ _ _ _ (T40.setTop (mkF m 18 #[.val (.ref a1), .val (.int (Int32.ofNat x)), .val (.int (Int32.ofNat y)), .unset, .unset] [(.int (Int32.ofNat (own_g P y)))]))
        have s43 : ∀ tz, Steps p.tables e below (T40.setTop (mkF m 2 #[.val (.ref a1), .val (.int (Int32.ofNat x)), .val (.int (Int32.ofNat (own_g P y))), .unset, .unset] [])) tz → Steps p.tables e below (T40.setTop (mkF m 18 #[.val (.ref a1), .val (.int (Int32.ofNat x)), .val (.int (Int32.ofNat y)), .unset, .unset] [(.int (Int32.ofNat (own_g P y)))])) tz := by
          intro tz kz
          refine XS.istoreN X40.here hx rfl (hb hby d8_18) rfl (l' := #[.val (.ref a1), .val (.int (Int32.ofNat x)), .val (.int (Int32.ofNat (own_g P y))), .unset, .unset]) rfl ?_
          refine XS.goto X40.here hx rfl (pc0 := 19) (pc' := 2) rfl (hb hby d8_19) (by decide) (by decide) ?_
          exact kz
        refine OG.step s43 ?_
        obtain ⟨f', hf', hs'⟩ := own_rt_step hrt1 hok.2.1 (fun z => hc9 (congrArg Int32.ofNat z))
        exact ih1 f' (by omega) (own_g P y) _ _ X40 e40 Nj2 (hok.1.2 y hy) hs'
  exact J2 4 x _ _ X0 e0 N0 hx4 rfl
theorem d10_0 : decode prog_25_method_3_code 0 = .ok (.aload_n 0, 1) := by decide +kernel
theorem d10_1 : decode prog_25_method_3_code 1 = .ok (.getfield 13, 3) := by decide +kernel
theorem d10_4 : decode prog_25_method_3_code 4 = .ok (.iload_n 1, 1) := by decide +kernel
theorem d10_5 : decode prog_25_method_3_code 5 = .ok (.iaload, 1) := by decide +kernel
theorem d10_6 : decode prog_25_method_3_code 6 = .ok (.ireturn, 1) := by decide +kernel
theorem ef_10 (m : MethodId) (x0 : Addr) (x1 : Int32) : entryFrame m #[(.ref x0), (.int x1)] 2 = mkF m 0 #[.val (.ref x0), .val (.int x1)] [] := by first | (simp [entryFrame, mkF, argsToLocals, Value.category]; done) | rfl
def Q10 (Z : State) (a1 : Addr) (x : Nat) (gs : Addr) (ks : ClassId) (h0 : Heap) (n0 : Nat) (v : Option Value) (h : Heap) (L : List Loc) : Prop := (v = some (.int (0 : Int32))) ∧ (Fr n0 L) ∧ (h = h0)
abbrev rom_10 : Room := { frames := 0, cells := 0, slots := 0, locals := 0 }
set_option maxRecDepth 65536 in
set_option maxHeartbeats 40000000 in
theorem rm10 (l : Launch) (Z : State) (a0 : Array Value) (hw : ∀ d ∈ tables_1, d.before a0 Z = true) (ws : List Jvm.Cond) (a1 : Addr) (x : Nat) (gs : Addr) (ks : ClassId) (h0 : Heap) (n0 : Nat) (Z0 : n0 ≤ h0.size) (F0_a1_starts : Fld Z h0 a1 "com/example/tidegraph/tidegraph/amd64/InterferenceGraph" "starts" "[I" (.ref gs)) (F1_gs : Arv Z h0 gs ks .int (5 : Int32) [(.int (0 : Int32)), (.int (0 : Int32)), (.int (0 : Int32)), (.int (0 : Int32)), (.int (0 : Int32))] (.int (0 : Int32))) (hx4 : x < 4) :
    MetFree l (⟨"com/example/tidegraph/tidegraph/amd64/InterferenceGraph", "first", "(I)I"⟩ : MethodName) (head1 (Jvm.Cond.code (⟨"com/example/tidegraph/tidegraph/amd64/InterferenceGraph", "first", "(I)I"⟩ : MethodName) prog_25_method_3_code 2 (some .int) :: ws) rom_10) (fun a U => a = #[(.ref a1), (.int (Int32.ofNat x))] ∧ Z.Warmed39 U.vm ∧ U.heap = h0) (fun _ _ _ _ _ => True) (fun _ U o U' => ∃ v L, o = .returned v ∧ Q10 Z a1 x gs ks h0 n0 v U'.heap L ∧ FrameEnd U o U' L rom_10.cells rom_10.slots) := by
  refine MetFree.of_bodySF (plainFor_of_name pn_com_example_tidegraph_tidegraph_amd64_InterferenceGraph) hisR ?_
  intro p e s m args below meth c s₁ Bd hml0 hP hK
  obtain ⟨rfl, hZ, hh⟩ := hP
  have hx := Bd.exec
  have hby := Bd.bytes
  have hlk := Bd.notSynchronized
  have hml : c.maxLocals = 2 := hml0
  have hown : s.vm.findClass "com/example/tidegraph/tidegraph/amd64/InterferenceGraph" = some m.cls := findClass_of_methodNamed Bd.named
  have hnm := (name_of_methodNamed Bd.named Bd.method).1
  have X0 : Stand p l e rom_10 s m #[(.ref a1), (.int (Int32.ofNat x))] below meth c s₁ [] 0 0 := Stand.of_body Bd
  have e0 : s₁.heap = h0 := by rw [← hh, Bd.state]; rfl
  have N0 := Fr.nil n0
  have K0 : Keep h0 h0 [] := Keep.refl _ _
  refine (?_ : OG p e below s (Q10 Z a1 x gs ks h0 n0) rom_10.cells rom_10.slots _)
  rw [ef_10]
  have s1 : ∀ tz, Steps p.tables e below (s₁.setTop (mkF m 1 #[.val (.ref a1), .val (.int (Int32.ofNat x))] [(.ref a1)])) tz → Steps p.tables e below (s₁.setTop (mkF m 0 #[.val (.ref a1), .val (.int (Int32.ofNat x))] [])) tz := by
    intro tz kz
    refine XS.aloadN X0.here hx rfl (hb hby d10_0) rfl rfl ?_
    exact kz
  refine OG.step s1 ?_
  obtain ⟨T2, X2, e2, st2⟩ := getF X0 hx hZ hown (host := "") (Or.inl (hw _ (List.mem_of_getElem? (i := 23) rfl))) Via.refl e0 F0_a1_starts (g := (mkF m 1 #[.val (.ref a1), .val (.int (Int32.ofNat x))] [(.ref a1)])) rfl rfl (hb hby d10_1)
  refine OG.step st2 ?_
  show OG _ _ _ _ _ _ _ (T2.setTop (mkF m 4 #[.val (.ref a1), .val (.int (Int32.ofNat x))] [(.ref gs)]))
  have s3 : ∀ tz, Steps p.tables e below (T2.setTop (mkF m 5 #[.val (.ref a1), .val (.int (Int32.ofNat x))] [(.int (Int32.ofNat x)), (.ref gs)])) tz → Steps p.tables e below (T2.setTop (mkF m 4 #[.val (.ref a1), .val (.int (Int32.ofNat x))] [(.ref gs)])) tz := by
    intro tz kz
    refine XS.iloadN X2.here hx rfl (hb hby d10_4) rfl ?_
    exact kz
  refine OG.step s3 ?_
  have av4 := F1_gs
  obtain ⟨cl4, Ar4, qa_4, Sa_4, Nn_4, Ha_4, Ga_4⟩ := av4
  have hin4 : ¬ ((Int32.ofNat x) < 0 ∨ cl4.slots.size ≤ ((Int32.ofNat x)).toNatClampNeg) := inb_of Sa_4 ⟨(own_x5 hx4).1, (own_x5 hx4).2.1⟩
  have hat4 : cl4.slots[((Int32.ofNat x)).toNatClampNeg]? = some (.int (0 : Int32)) := Ha_4.at hin4 (own_z5 (own_x5 hx4).2.2 (by omega))
  refine OG.step (X2.iaload hx (j := (Int32.ofNat x)) (v := (.int (0 : Int32))) (by rw [e2]; exact Ar4.1) (State.isArrayOf_alike hZ.alike Ar4.2.1) Ar4.2.2 hin4 hat4 (g := (mkF m 5 #[.val (.ref a1), .val (.int (Int32.ofNat x))] [(.int (Int32.ofNat x)), (.ref gs)])) rfl rfl (hb hby d10_5)) ?_
  show OG _ _ _ _ _ _ _ (T2.setTop (mkF m 6 #[.val (.ref a1), .val (.int (Int32.ofNat x))] [(.int (0 : Int32))]))
  exact OG.retI X2 hx hlk Bd.returns (hb hby d10_6) e2 ⟨rfl, N0, rfl⟩ (by decide) (by decide)
theorem d11_0 : decode prog_25_method_4_code 0 = .ok (.aload_n 0, 1) := by decide +kernel
theorem d11_1 : decode prog_25_method_4_code 1 = .ok (.getfield 13, 3) := by decide +kernel
theorem d11_4 : decode prog_25_method_4_code 4 = .ok (.iload_n 1, 1) := by decide +kernel
theorem d11_5 : decode prog_25_method_4_code 5 = .ok (.iconst 1, 1) := by decide +kernel
theorem d11_6 : decode prog_25_method_4_code 6 = .ok (.iadd, 1) := by decide +kernel
theorem d11_7 : decode prog_25_method_4_code 7 = .ok (.iaload, 1) := by decide +kernel
theorem d11_8 : decode prog_25_method_4_code 8 = .ok (.ireturn, 1) := by decide +kernel
theorem ef_11 (m : MethodId) (x0 : Addr) (x1 : Int32) : entryFrame m #[(.ref x0), (.int x1)] 2 = mkF m 0 #[.val (.ref x0), .val (.int x1)] [] := by first | (simp [entryFrame, mkF, argsToLocals, Value.category]; done) | rfl
def Q11 (Z : State) (a1 : Addr) (x : Nat) (gs : Addr) (ks : ClassId) (h0 : Heap) (n0 : Nat) (v : Option Value) (h : Heap) (L : List Loc) : Prop := (v = some (.int (0 : Int32))) ∧ (Fr n0 L) ∧ (h = h0)
abbrev rom_11 : Room := { frames := 0, cells := 0, slots := 0, locals := 0 }
set_option maxRecDepth 65536 in
set_option maxHeartbeats 40000000 in
theorem rm11 (l : Launch) (Z : State) (a0 : Array Value) (hw : ∀ d ∈ tables_1, d.before a0 Z = true) (ws : List Jvm.Cond) (a1 : Addr) (x : Nat) (gs : Addr) (ks : ClassId) (h0 : Heap) (n0 : Nat) (Z0 : n0 ≤ h0.size) (F0_a1_starts : Fld Z h0 a1 "com/example/tidegraph/tidegraph/amd64/InterferenceGraph" "starts" "[I" (.ref gs)) (F1_gs : Arv Z h0 gs ks .int (5 : Int32) [(.int (0 : Int32)), (.int (0 : Int32)), (.int (0 : Int32)), (.int (0 : Int32)), (.int (0 : Int32))] (.int (0 : Int32))) (hx4 : x < 4) :
    MetFree l (⟨"com/example/tidegraph/tidegraph/amd64/InterferenceGraph", "end", "(I)I"⟩ : MethodName) (head1 (Jvm.Cond.code (⟨"com/example/tidegraph/tidegraph/amd64/InterferenceGraph", "end", "(I)I"⟩ : MethodName) prog_25_method_4_code 2 (some .int) :: ws) rom_11) (fun a U => a = #[(.ref a1), (.int (Int32.ofNat x))] ∧ Z.Warmed39 U.vm ∧ U.heap = h0) (fun _ _ _ _ _ => True) (fun _ U o U' => ∃ v L, o = .returned v ∧ Q11 Z a1 x gs ks h0 n0 v U'.heap L ∧ FrameEnd U o U' L rom_11.cells rom_11.slots) := by
  refine MetFree.of_bodySF (plainFor_of_name pn_com_example_tidegraph_tidegraph_amd64_InterferenceGraph) hisR ?_
  intro p e s m args below meth c s₁ Bd hml0 hP hK
  obtain ⟨rfl, hZ, hh⟩ := hP
  have hx := Bd.exec
  have hby := Bd.bytes
  have hlk := Bd.notSynchronized
  have hml : c.maxLocals = 2 := hml0
  have hown : s.vm.findClass "com/example/tidegraph/tidegraph/amd64/InterferenceGraph" = some m.cls := findClass_of_methodNamed Bd.named
  have hnm := (name_of_methodNamed Bd.named Bd.method).1
  have X0 : Stand p l e rom_11 s m #[(.ref a1), (.int (Int32.ofNat x))] below meth c s₁ [] 0 0 := Stand.of_body Bd
  have e0 : s₁.heap = h0 := by rw [← hh, Bd.state]; rfl
  have N0 := Fr.nil n0
  have K0 : Keep h0 h0 [] := Keep.refl _ _
  refine (?_ : OG p e below s (Q11 Z a1 x gs ks h0 n0) rom_11.cells rom_11.slots _)
  rw [ef_11]
  have s1 : ∀ tz, Steps p.tables e below (s₁.setTop (mkF m 1 #[.val (.ref a1), .val (.int (Int32.ofNat x))] [(.ref a1)])) tz → Steps p.tables e below (s₁.setTop (mkF m 0 #[.val (.ref a1), .val (.int (Int32.ofNat x))] [])) tz := by
    intro tz kz
    refine XS.aloadN X0.here hx rfl (hb hby d11_0) rfl rfl ?_
    exact kz
  refine OG.step s1 ?_
  obtain ⟨T2, X2, e2, st2⟩ := getF X0 hx hZ hown (host := "") (Or.inl (hw _ (List.mem_of_getElem? (i := 23) rfl))) Via.refl e0 F0_a1_starts (g := (mkF m 1 #[.val (.ref a1), .val (.int (Int32.ofNat x))] [(.ref a1)])) rfl rfl (hb hby d11_1)
  refine OG.step st2 ?_
  show OG _ _ _ _ _ _ _ (T2.setTop (mkF m 4 #[.val (.ref a1), .val (.int (Int32.ofNat x))] [(.ref gs)]))
  have s3 : ∀ tz, Steps p.tables e below (T2.setTop (mkF m 7 #[.val (.ref a1), .val (.int (Int32.ofNat x))] [(.int ((Int32.ofNat x) + (1 : Int32))), (.ref gs)])) tz → Steps p.tables e below (T2.setTop (mkF m 4 #[.val (.ref a1), .val (.int (Int32.ofNat x))] [(.ref gs)])) tz := by
    intro tz kz
    refine XS.iloadN X2.here hx rfl (hb hby d11_4) rfl ?_
    refine XS.iconst X2.here hx rfl (hb hby d11_5) ?_
    refine XS.iadd X2.here hx rfl (hb hby d11_6) rfl ?_
    exact kz
  refine OG.step s3 ?_
  have av4 := F1_gs
  obtain ⟨cl4, Ar4, qa_4, Sa_4, Nn_4, Ha_4, Ga_4⟩ := av4
  have hin4 : ¬ (((Int32.ofNat x) + (1 : Int32)) < 0 ∨ cl4.slots.size ≤ (((Int32.ofNat x) + (1 : Int32))).toNatClampNeg) := inb_of Sa_4 ⟨(own_x5s hx4).1, (own_x5s hx4).2.1⟩
  have hat4 : cl4.slots[(((Int32.ofNat x) + (1 : Int32))).toNatClampNeg]? = some (.int (0 : Int32)) := Ha_4.at hin4 (own_z5 (own_x5s hx4).2.2 (by omega))
  refine OG.step (X2.iaload hx (j := ((Int32.ofNat x) + (1 : Int32))) (v := (.int (0 : Int32))) (by rw [e2]; exact Ar4.1) (State.isArrayOf_alike hZ.alike Ar4.2.1) Ar4.2.2 hin4 hat4 (g := (mkF m 7 #[.val (.ref a1), .val (.int (Int32.ofNat x))] [(.int ((Int32.ofNat x) + (1 : Int32))), (.ref gs)])) rfl rfl (hb hby d11_7)) ?_
  show OG _ _ _ _ _ _ _ (T2.setTop (mkF m 8 #[.val (.ref a1), .val (.int (Int32.ofNat x))] [(.int (0 : Int32))]))
  exact OG.retI X2 hx hlk Bd.returns (hb hby d11_8) e2 ⟨rfl, N0, rfl⟩ (by decide) (by decide)
theorem own_jn_same {Pa Sz Nx La : List Nat} {aa bb : Nat} (h : own_rt Pa 4 aa = own_rt (own_fc Pa aa) 4 bb) : (own_fc (own_fc Pa aa) bb, Sz, Nx, La) = own_jn (Pa, Sz, Nx, La) aa bb := (if_pos h).symm
theorem own_jn_diff {Pa Sz Nx La : List Nat} {aa bb sm bg : Nat} (h : ¬ own_rt Pa 4 aa = own_rt (own_fc Pa aa) 4 bb) (hs : sm = own_sm Sz (own_rt Pa 4 aa) (own_rt (own_fc Pa aa) 4 bb)) (hb : bg = own_bg Sz (own_rt Pa 4 aa) (own_rt (own_fc Pa aa) 4 bb)) :
    ((own_fc (own_fc Pa aa) bb).set sm bg, Sz.set bg (own_g Sz bg + own_g Sz sm), Nx.set (own_g La bg) (sm + 1), La.set bg (own_g La sm)) = own_jn (Pa, Sz, Nx, La) aa bb := by
  subst hs hb
  exact (if_neg h).symm
theorem d7_0 : decode prog_28_method_4_code 0 = .ok (.aload_n 0, 1) := by decide +kernel
theorem d7_1 : decode prog_28_method_4_code 1 = .ok (.iload_n 1, 1) := by decide +kernel
theorem d7_2 : decode prog_28_method_4_code 2 = .ok (.invokevirtual 26, 3) := by decide +kernel
theorem d7_5 : decode prog_28_method_4_code 5 = .ok (.istore_n 3, 1) := by decide +kernel
theorem d7_6 : decode prog_28_method_4_code 6 = .ok (.aload_n 0, 1) := by decide +kernel
theorem d7_7 : decode prog_28_method_4_code 7 = .ok (.iload_n 2, 1) := by decide +kernel
theorem d7_8 : decode prog_28_method_4_code 8 = .ok (.invokevirtual 26, 3) := by decide +kernel
theorem d7_11 : decode prog_28_method_4_code 11 = .ok (.istore 4, 2) := by decide +kernel
theorem d7_13 : decode prog_28_method_4_code 13 = .ok (.iload_n 3, 1) := by decide +kernel
theorem d7_14 : decode prog_28_method_4_code 14 = .ok (.iload 4, 2) := by decide +kernel
theorem d7_16 : decode prog_28_method_4_code 16 = .ok (.if_icmp .ne 4, 3) := by decide +kernel
theorem d7_19 : decode prog_28_method_4_code 19 = .ok (.return_, 1) := by decide +kernel
theorem d7_20 : decode prog_28_method_4_code 20 = .ok (.aload_n 0, 1) := by decide +kernel
theorem d7_21 : decode prog_28_method_4_code 21 = .ok (.getfield 17, 3) := by decide +kernel
theorem d7_24 : decode prog_28_method_4_code 24 = .ok (.iload_n 3, 1) := by decide +kernel
theorem d7_25 : decode prog_28_method_4_code 25 = .ok (.iaload, 1) := by decide +kernel
theorem d7_26 : decode prog_28_method_4_code 26 = .ok (.aload_n 0, 1) := by decide +kernel
theorem d7_27 : decode prog_28_method_4_code 27 = .ok (.getfield 17, 3) := by decide +kernel
theorem d7_30 : decode prog_28_method_4_code 30 = .ok (.iload 4, 2) := by decide +kernel
theorem d7_32 : decode prog_28_method_4_code 32 = .ok (.iaload, 1) := by decide +kernel
theorem d7_33 : decode prog_28_method_4_code 33 = .ok (.if_icmp .gt 7, 3) := by decide +kernel
theorem d7_36 : decode prog_28_method_4_code 36 = .ok (.iload_n 3, 1) := by decide +kernel
theorem d7_37 : decode prog_28_method_4_code 37 = .ok (.goto 5, 3) := by decide +kernel
theorem d7_40 : decode prog_28_method_4_code 40 = .ok (.iload 4, 2) := by decide +kernel
theorem d7_42 : decode prog_28_method_4_code 42 = .ok (.istore 5, 2) := by decide +kernel
theorem d7_44 : decode prog_28_method_4_code 44 = .ok (.iload 5, 2) := by decide +kernel
theorem d7_46 : decode prog_28_method_4_code 46 = .ok (.iload_n 3, 1) := by decide +kernel
theorem d7_47 : decode prog_28_method_4_code 47 = .ok (.if_icmp .ne 8, 3) := by decide +kernel
theorem d7_50 : decode prog_28_method_4_code 50 = .ok (.iload 4, 2) := by decide +kernel
theorem d7_52 : decode prog_28_method_4_code 52 = .ok (.goto 4, 3) := by decide +kernel
theorem d7_55 : decode prog_28_method_4_code 55 = .ok (.iload_n 3, 1) := by decide +kernel
theorem d7_56 : decode prog_28_method_4_code 56 = .ok (.istore 6, 2) := by decide +kernel
theorem d7_58 : decode prog_28_method_4_code 58 = .ok (.iload 5, 2) := by decide +kernel
theorem d7_60 : decode prog_28_method_4_code 60 = .ok (.istore 7, 2) := by decide +kernel
theorem d7_62 : decode prog_28_method_4_code 62 = .ok (.iload 7, 2) := by decide +kernel
theorem d7_64 : decode prog_28_method_4_code 64 = .ok (.ifCond .lt 65, 3) := by decide +kernel
theorem d7_67 : decode prog_28_method_4_code 67 = .ok (.aload_n 0, 1) := by decide +kernel
theorem d7_68 : decode prog_28_method_4_code 68 = .ok (.getfield 7, 3) := by decide +kernel
theorem d7_71 : decode prog_28_method_4_code 71 = .ok (.iload 7, 2) := by decide +kernel
theorem d7_73 : decode prog_28_method_4_code 73 = .ok (.invokevirtual 30, 3) := by decide +kernel
theorem d7_76 : decode prog_28_method_4_code 76 = .ok (.istore 8, 2) := by decide +kernel
theorem d7_78 : decode prog_28_method_4_code 78 = .ok (.iload 8, 2) := by decide +kernel
theorem d7_80 : decode prog_28_method_4_code 80 = .ok (.aload_n 0, 1) := by decide +kernel
theorem d7_81 : decode prog_28_method_4_code 81 = .ok (.getfield 7, 3) := by decide +kernel
theorem d7_84 : decode prog_28_method_4_code 84 = .ok (.iload 7, 2) := by decide +kernel
theorem d7_86 : decode prog_28_method_4_code 86 = .ok (.invokevirtual 35, 3) := by decide +kernel
theorem d7_89 : decode prog_28_method_4_code 89 = .ok (.if_icmp .ge 28, 3) := by decide +kernel
theorem d7_92 : decode prog_28_method_4_code 92 = .ok (.aload_n 0, 1) := by decide +kernel
theorem d7_93 : decode prog_28_method_4_code 93 = .ok (.aload_n 0, 1) := by decide +kernel
theorem d7_94 : decode prog_28_method_4_code 94 = .ok (.getfield 7, 3) := by decide +kernel
theorem d7_97 : decode prog_28_method_4_code 97 = .ok (.iload 8, 2) := by decide +kernel
theorem d7_99 : decode prog_28_method_4_code 99 = .ok (.invokevirtual 38, 3) := by decide +kernel
theorem d7_102 : decode prog_28_method_4_code 102 = .ok (.invokevirtual 26, 3) := by decide +kernel
theorem d7_105 : decode prog_28_method_4_code 105 = .ok (.iload 6, 2) := by decide +kernel
theorem d7_107 : decode prog_28_method_4_code 107 = .ok (.if_icmp .ne 4, 3) := by decide +kernel
theorem d7_110 : decode prog_28_method_4_code 110 = .ok (.return_, 1) := by decide +kernel
theorem d7_111 : decode prog_28_method_4_code 111 = .ok (.iinc 8 1, 3) := by decide +kernel
theorem d7_114 : decode prog_28_method_4_code 114 = .ok (.goto (-36), 3) := by decide +kernel
theorem d7_117 : decode prog_28_method_4_code 117 = .ok (.aload_n 0, 1) := by decide +kernel
theorem d7_118 : decode prog_28_method_4_code 118 = .ok (.getfield 20, 3) := by decide +kernel
theorem d7_121 : decode prog_28_method_4_code 121 = .ok (.iload 7, 2) := by decide +kernel
theorem d7_123 : decode prog_28_method_4_code 123 = .ok (.iaload, 1) := by decide +kernel
theorem d7_124 : decode prog_28_method_4_code 124 = .ok (.istore 7, 2) := by decide +kernel
theorem d7_126 : decode prog_28_method_4_code 126 = .ok (.goto (-64), 3) := by decide +kernel
theorem d7_129 : decode prog_28_method_4_code 129 = .ok (.aload_n 0, 1) := by decide +kernel
theorem d7_130 : decode prog_28_method_4_code 130 = .ok (.getfield 13, 3) := by decide +kernel
theorem d7_133 : decode prog_28_method_4_code 133 = .ok (.iload 5, 2) := by decide +kernel
theorem d7_135 : decode prog_28_method_4_code 135 = .ok (.iload 6, 2) := by decide +kernel
theorem d7_137 : decode prog_28_method_4_code 137 = .ok (.iastore, 1) := by decide +kernel
theorem d7_138 : decode prog_28_method_4_code 138 = .ok (.aload_n 0, 1) := by decide +kernel
theorem d7_139 : decode prog_28_method_4_code 139 = .ok (.getfield 17, 3) := by decide +kernel
theorem d7_142 : decode prog_28_method_4_code 142 = .ok (.iload 6, 2) := by decide +kernel
theorem d7_144 : decode prog_28_method_4_code 144 = .ok (.dup2, 1) := by decide +kernel
theorem d7_145 : decode prog_28_method_4_code 145 = .ok (.iaload, 1) := by decide +kernel
theorem d7_146 : decode prog_28_method_4_code 146 = .ok (.aload_n 0, 1) := by decide +kernel
theorem d7_147 : decode prog_28_method_4_code 147 = .ok (.getfield 17, 3) := by decide +kernel
theorem d7_150 : decode prog_28_method_4_code 150 = .ok (.iload 5, 2) := by decide +kernel
theorem d7_152 : decode prog_28_method_4_code 152 = .ok (.iaload, 1) := by decide +kernel
theorem d7_153 : decode prog_28_method_4_code 153 = .ok (.iadd, 1) := by decide +kernel
theorem d7_154 : decode prog_28_method_4_code 154 = .ok (.iastore, 1) := by decide +kernel
theorem d7_155 : decode prog_28_method_4_code 155 = .ok (.aload_n 0, 1) := by decide +kernel
theorem d7_156 : decode prog_28_method_4_code 156 = .ok (.getfield 20, 3) := by decide +kernel
theorem d7_159 : decode prog_28_method_4_code 159 = .ok (.aload_n 0, 1) := by decide +kernel
theorem d7_160 : decode prog_28_method_4_code 160 = .ok (.getfield 23, 3) := by decide +kernel
theorem d7_163 : decode prog_28_method_4_code 163 = .ok (.iload 6, 2) := by decide +kernel
theorem d7_165 : decode prog_28_method_4_code 165 = .ok (.iaload, 1) := by decide +kernel
theorem d7_166 : decode prog_28_method_4_code 166 = .ok (.iload 5, 2) := by decide +kernel
theorem d7_168 : decode prog_28_method_4_code 168 = .ok (.iastore, 1) := by decide +kernel
theorem d7_169 : decode prog_28_method_4_code 169 = .ok (.aload_n 0, 1) := by decide +kernel
theorem d7_170 : decode prog_28_method_4_code 170 = .ok (.getfield 23, 3) := by decide +kernel
theorem d7_173 : decode prog_28_method_4_code 173 = .ok (.iload 6, 2) := by decide +kernel
theorem d7_175 : decode prog_28_method_4_code 175 = .ok (.aload_n 0, 1) := by decide +kernel
theorem d7_176 : decode prog_28_method_4_code 176 = .ok (.getfield 23, 3) := by decide +kernel
theorem d7_179 : decode prog_28_method_4_code 179 = .ok (.iload 5, 2) := by decide +kernel
theorem d7_181 : decode prog_28_method_4_code 181 = .ok (.iaload, 1) := by decide +kernel
theorem d7_182 : decode prog_28_method_4_code 182 = .ok (.iastore, 1) := by decide +kernel
theorem d7_183 : decode prog_28_method_4_code 183 = .ok (.return_, 1) := by decide +kernel
theorem ef_7 (m : MethodId) (x0 : Addr) (x1 : Int32) (x2 : Int32) : entryFrame m #[(.ref x0), (.int x1), (.int x2)] 9 = mkF m 0 #[.val (.ref x0), .val (.int x1), .val (.int x2), .unset, .unset, .unset, .unset, .unset, .unset] [] := by first | (simp [entryFrame, mkF, argsToLocals, Value.category]; done) | rfl
def Q7 (Z : State) (a1 : Addr) (aa : Nat) (bb : Nat) (gv : Addr) (gs : Addr) (ks : ClassId) (ap : Addr) (az : Addr) (an : Addr) (al : Addr) (kp : ClassId) (kz : ClassId) (kn : ClassId) (kl : ClassId) (Pa : List Nat) (Sz : List Nat) (Nx : List Nat) (La : List Nat) (h0 : Heap) (n0 : Nat) (v : Option Value) (h : Heap) (L : List Loc) : Prop := ∃ (Pa2 : List Nat) (Sz2 : List Nat) (Nx2 : List Nat) (La2 : List Nat), (v = none) ∧ (Fr n0 L) ∧ (Keep h0 h [ap, az, an, al]) ∧ (Arv Z h ap kp .int (4 : Int32) (own_vl Pa2) (.int (0 : Int32))) ∧ (Arv Z h az kz .int (4 : Int32) (own_vl Sz2) (.int (0 : Int32))) ∧ (Arv Z h an kn .int (4 : Int32) (own_vn Nx2) (.int (0 : Int32))) ∧ (Arv Z h al kl .int (4 : Int32) (own_vl La2) (.int (0 : Int32))) ∧ ((Pa2, Sz2, Nx2, La2) = own_jn (Pa, Sz, Nx, La) aa bb)
theorem pd__I_I : parseMethodDescriptor "(I)I" = some ⟨[.int], some .int⟩ := by decide +kernel
abbrev rom_7 : Room := { frames := 1, cells := 0, slots := 0, locals := 16 }
set_option maxRecDepth 65536 in
set_option maxHeartbeats 40000000 in
theorem rm7 (l : Launch) (Z : State) (a0 : Array Value) (hw : ∀ d ∈ tables_1, d.before a0 Z = true) (ws : List Jvm.Cond) (a1 : Addr) (aa : Nat) (bb : Nat) (gv : Addr) (gs : Addr) (ks : ClassId) (ap : Addr) (az : Addr) (an : Addr) (al : Addr) (kp : ClassId) (kz : ClassId) (kn : ClassId) (kl : ClassId) (Pa : List Nat) (Sz : List Nat) (Nx : List Nat) (La : List Nat) (h0 : Heap) (n0 : Nat) (Z0 : n0 ≤ h0.size) (F0_a1 : Exa Z h0 a1 "com/example/tidegraph/tidegraph/amd64/LiveRanges") (F1_a1_values : Fld Z h0 a1 "com/example/tidegraph/tidegraph/amd64/LiveRanges" "values" "Lcom/example/tidegraph/tidegraph/amd64/InterferenceGraph;" (.ref gv)) (F2_gv : Exa Z h0 gv "com/example/tidegraph/tidegraph/amd64/InterferenceGraph") (F3_gv_starts : Fld Z h0 gv "com/example/tidegraph/tidegraph/amd64/InterferenceGraph" "starts" "[I" (.ref gs)) (F4_gs : Arv Z h0 gs ks .int (5 : Int32) [(.int (0 : Int32)), (.int (0 : Int32)), (.int (0 : Int32)), (.int (0 : Int32)), (.int (0 : Int32))] (.int (0 : Int32))) (F5_a1_parent : Fld Z h0 a1 "com/example/tidegraph/tidegraph/amd64/LiveRanges" "parent" "[I" (.ref ap)) (F6_a1_size : Fld Z h0 a1 "com/example/tidegraph/tidegraph/amd64/LiveRanges" "size" "[I" (.ref az)) (F7_a1_next : Fld Z h0 a1 "com/example/tidegraph/tidegraph/amd64/LiveRanges" "next" "[I" (.ref an)) (F8_a1_last : Fld Z h0 a1 "com/example/tidegraph/tidegraph/amd64/LiveRanges" "last" "[I" (.ref al)) (F9_ap : Arv Z h0 ap kp .int (4 : Int32) (own_vl Pa) (.int (0 : Int32))) (F10_az : Arv Z h0 az kz .int (4 : Int32) (own_vl Sz) (.int (0 : Int32))) (F11_an : Arv Z h0 an kn .int (4 : Int32) (own_vn Nx) (.int (0 : Int32))) (F12_al : Arv Z h0 al kl .int (4 : Int32) (own_vl La) (.int (0 : Int32))) (ne_a1_gv : a1 ≠ gv) (ne_a1_gs : a1 ≠ gs) (ne_a1_ap : a1 ≠ ap) (ne_a1_az : a1 ≠ az) (ne_a1_an : a1 ≠ an) (ne_a1_al : a1 ≠ al) (ne_gv_gs : gv ≠ gs) (ne_gv_ap : gv ≠ ap) (ne_gv_az : gv ≠ az) (ne_gv_an : gv ≠ an) (ne_gv_al : gv ≠ al) (ne_gs_ap : gs ≠ ap) (ne_gs_az : gs ≠ az) (ne_gs_an : gs ≠ an) (ne_gs_al : gs ≠ al) (ne_ap_az : ap ≠ az) (ne_ap_an : ap ≠ an) (ne_ap_al : ap ≠ al) (ne_az_an : az ≠ an) (ne_az_al : az ≠ al) (ne_an_al : an ≠ al) (g_ap : n0 ≤ ap) (g_az : n0 ≤ az) (g_an : n0 ≤ an) (g_al : n0 ≤ al) (ha4 : aa < 4) (hbb4 : bb < 4) (hjk : own_jok (Pa, Sz, Nx, La) aa bb) :
    MetFree l (⟨"com/example/tidegraph/tidegraph/amd64/LiveRanges", "join", "(II)V"⟩ : MethodName) (head1 (Jvm.Cond.code (⟨"com/example/tidegraph/tidegraph/amd64/LiveRanges", "join", "(II)V"⟩ : MethodName) prog_28_method_4_code 9 none :: ws) rom_7) (fun a U => a = #[(.ref a1), (.int (Int32.ofNat aa)), (.int (Int32.ofNat bb))] ∧ Z.Warmed39 U.vm ∧ U.heap = h0) (fun _ _ _ _ _ => True) (fun _ U o U' => ∃ v L, o = .returned v ∧ Q7 Z a1 aa bb gv gs ks ap az an al kp kz kn kl Pa Sz Nx La h0 n0 v U'.heap L ∧ FrameEnd U o U' L rom_7.cells rom_7.slots) := by
  refine MetFree.of_bodySF (plainFor_of_name pn_com_example_tidegraph_tidegraph_amd64_LiveRanges) hisR ?_
  intro p e s m args below meth c s₁ Bd hml0 hP hK
  obtain ⟨rfl, hZ, hh⟩ := hP
  have hx := Bd.exec
  have hby := Bd.bytes
  have hlk := Bd.notSynchronized
  have hml : c.maxLocals = 9 := hml0
  have hown : s.vm.findClass "com/example/tidegraph/tidegraph/amd64/LiveRanges" = some m.cls := findClass_of_methodNamed Bd.named
  have hnm := (name_of_methodNamed Bd.named Bd.method).1
  have X0 : Stand p l e rom_7 s m #[(.ref a1), (.int (Int32.ofNat aa)), (.int (Int32.ofNat bb))] below meth c s₁ [] 0 0 := Stand.of_body Bd
  have e0 : s₁.heap = h0 := by rw [← hh, Bd.state]; rfl
  have N0 := Fr.nil n0
  have K0 : Keep h0 h0 [ap, az, an, al] := Keep.refl _ _
  refine (?_ : OG p e below s (Q7 Z a1 aa bb gv gs ks ap az an al kp kz kn kl Pa Sz Nx La h0 n0) rom_7.cells rom_7.slots _)
  rw [ef_7]
  have s1 : ∀ tz, Steps p.tables e below (s₁.setTop (mkF m 2 #[.val (.ref a1), .val (.int (Int32.ofNat aa)), .val (.int (Int32.ofNat bb)), .unset, .unset, .unset, .unset, .unset, .unset] [(.int (Int32.ofNat aa)), (.ref a1)])) tz → Steps p.tables e below (s₁.setTop (mkF m 0 #[.val (.ref a1), .val (.int (Int32.ofNat aa)), .val (.int (Int32.ofNat bb)), .unset, .unset, .unset, .unset, .unset, .unset] [])) tz := by
    intro tz kz
    refine XS.aloadN X0.here hx rfl (hb hby d7_0) rfl rfl ?_
    refine XS.iloadN X0.here hx rfl (hb hby d7_1) rfl ?_
    exact kz
  refine OG.step s1 ?_
  obtain ⟨cq2, kq2, q2a, q2b, q2c⟩ := isOf hZ e0 F0_a1
  obtain ⟨_, _, ⟨T2, L2, k2, n2⟩, -, X2, ⟨Lc2, hQ2, l2, y2, z2⟩, st2⟩ := X0.virtualBack hx (y := (⟨"com/example/tidegraph/tidegraph/amd64/LiveRanges", "find", "(I)I"⟩ : MethodName)) (z := (⟨"com/example/tidegraph/tidegraph/amd64/LiveRanges", "find", "(I)I"⟩ : MethodName)) hown (mvT hZ (hw _ (List.mem_of_getElem? (i := 61) rfl))) (mvT hZ (hw _ (List.mem_of_getElem? (i := 62) rfl))) (notFace_of_selects (args := #[]) (mvT hZ (hw _ (List.mem_of_getElem? (i := 64) rfl)))) (mvT hZ (hw _ (List.mem_of_getElem? (i := 64) rfl))) (mvT hZ (hw _ (List.mem_of_getElem? (i := 63) rfl))) (by decide) (backOf (W := 0) (rm8 l Z a0 hw [] a1 aa ap kp Pa h0 n0 (Nat.le_trans Z0 K0.1) F5_a1_parent F9_ap ne_a1_ap g_ap ha4 hjk.1) hZ (hw _ (List.mem_of_getElem? (i := 65) rfl)) (hw _ (List.mem_of_getElem? (i := 41) rfl)) (by decide) (by decide)) q2a q2c (g := (mkF m 2 #[.val (.ref a1), .val (.int (Int32.ofNat aa)), .val (.int (Int32.ofNat bb)), .unset, .unset, .unset, .unset, .unset, .unset] [(.int (Int32.ofNat aa)), (.ref a1)])) rfl (by rw [hml]; rfl) (Steps.refl _) (argsL := [(.int (Int32.ofNat aa))]) (rest := []) (lenOf pd__I_I rfl) rfl (by show 2 * 0 + _ ≤ _; exact Nat.le_of_eq rfl) (hb hby d7_2) (fun _ _ => ⟨rfl, e0, (by decide : 0 + 0 ≤ _), (by decide : 0 + 0 ≤ _)⟩)
  dsimp only [Pt.U, Pt.locs, Pt.cells, Pt.slots] at X2 l2 y2 z2 st2 hQ2
  subst l2 y2 z2
  obtain ⟨rfl, N2q, Kc2, p2_0⟩ := hQ2
  have N2 := Fr.app N0 N2q
  refine OG.step (fun tz kz => st2.trans kz) ?_
  have f3 := F0_a1.keep Kc2
  have f4 := F1_a1_values.keep Kc2 (ninS ne_a1_ap nin0)
  have f5 := F2_gv.keep Kc2
  have f6 := F3_gv_starts.keep Kc2 (ninS ne_gv_ap nin0)
  have f7 := F4_gs.keep Kc2 (ninS ne_gs_ap nin0)
  have f8 := F5_a1_parent.keep Kc2 (ninS ne_a1_ap nin0)
  have f9 := F6_a1_size.keep Kc2 (ninS ne_a1_ap nin0)
  have f10 := F7_a1_next.keep Kc2 (ninS ne_a1_ap nin0)
  have f11 := F8_a1_last.keep Kc2 (ninS ne_a1_ap nin0)
  have f13 := F10_az.keep Kc2 (ninS (Ne.symm ne_ap_az) nin0)
  have f14 := F11_an.keep Kc2 (ninS (Ne.symm ne_ap_an) nin0)
  have f15 := F12_al.keep Kc2 (ninS (Ne.symm ne_ap_al) nin0)
  have K2 := K0.trans Kc2 (allS (Or.inl (List.mem_of_getElem? (i := 0) rfl)) all0)
  obtain ⟨Lz16, X2, N2⟩ : ∃ Lz, Stand p l e rom_7 s m #[(.ref a1), (.int (Int32.ofNat aa)), (.int (Int32.ofNat bb))] below meth c T2 Lz 0 0 ∧ Fr n0 Lz := ⟨_, X2, N2⟩
  show OG _ _ _ _ _ _ _ (T2.setTop (mkF m 5 #[.val (.ref a1), .val (.int (Int32.ofNat aa)), .val (.int (Int32.ofNat bb)), .unset, .unset, .unset, .unset, .unset, .unset] [(.int (Int32.ofNat (own_rt Pa 4 aa)))]))
  have s17 : ∀ tz, Steps p.tables e below (T2.setTop (mkF m 8 #[.val (.ref a1), .val (.int (Int32.ofNat aa)), .val (.int (Int32.ofNat bb)), .val (.int (Int32.ofNat (own_rt Pa 4 aa))), .unset, .unset, .unset, .unset, .unset] [(.int (Int32.ofNat bb)), (.ref a1)])) tz → Steps p.tables e below (T2.setTop (mkF m 5 #[.val (.ref a1), .val (.int (Int32.ofNat aa)), .val (.int (Int32.ofNat bb)), .unset, .unset, .unset, .unset, .unset, .unset] [(.int (Int32.ofNat (own_rt Pa 4 aa)))])) tz := by
    intro tz kz
    refine XS.istoreN X2.here hx rfl (hb hby d7_5) rfl (l' := #[.val (.ref a1), .val (.int (Int32.ofNat aa)), .val (.int (Int32.ofNat bb)), .val (.int (Int32.ofNat (own_rt Pa 4 aa))), .unset, .unset, .unset, .unset, .unset]) rfl ?_
    refine XS.aloadN X2.here hx rfl (hb hby d7_6) rfl rfl ?_
    refine XS.iloadN X2.here hx rfl (hb hby d7_7) rfl ?_
    exact kz
  refine OG.step s17 ?_
  obtain ⟨cq18, kq18, q18a, q18b, q18c⟩ := isOf hZ rfl f3
  obtain ⟨_, _, ⟨T18, L18, k18, n18⟩, -, X18, ⟨Lc18, hQ18, l18, y18, z18⟩, st18⟩ := X2.virtualBack hx (y := (⟨"com/example/tidegraph/tidegraph/amd64/LiveRanges", "find", "(I)I"⟩ : MethodName)) (z := (⟨"com/example/tidegraph/tidegraph/amd64/LiveRanges", "find", "(I)I"⟩ : MethodName)) hown (mvT hZ (hw _ (List.mem_of_getElem? (i := 61) rfl))) (mvT hZ (hw _ (List.mem_of_getElem? (i := 62) rfl))) (notFace_of_selects (args := #[]) (mvT hZ (hw _ (List.mem_of_getElem? (i := 64) rfl)))) (mvT hZ (hw _ (List.mem_of_getElem? (i := 64) rfl))) (mvT hZ (hw _ (List.mem_of_getElem? (i := 63) rfl))) (by decide) (backOf (W := 0) (rm8 l Z a0 hw [] a1 bb ap kp (own_fc Pa aa) T2.heap n0 (Nat.le_trans Z0 K2.1) f8 p2_0 ne_a1_ap g_ap hbb4 hjk.2.1) hZ (hw _ (List.mem_of_getElem? (i := 65) rfl)) (hw _ (List.mem_of_getElem? (i := 41) rfl)) (by decide) (by decide)) q18a q18c (g := (mkF m 8 #[.val (.ref a1), .val (.int (Int32.ofNat aa)), .val (.int (Int32.ofNat bb)), .val (.int (Int32.ofNat (own_rt Pa 4 aa))), .unset, .unset, .unset, .unset, .unset] [(.int (Int32.ofNat bb)), (.ref a1)])) rfl (by rw [hml]; rfl) (Steps.refl _) (argsL := [(.int (Int32.ofNat bb))]) (rest := []) (lenOf pd__I_I rfl) rfl (by show 2 * 0 + _ ≤ _; exact Nat.le_of_eq rfl) (hb hby d7_8) (fun _ _ => ⟨rfl, rfl, (by decide : 0 + 0 ≤ _), (by decide : 0 + 0 ≤ _)⟩)
  dsimp only [Pt.U, Pt.locs, Pt.cells, Pt.slots] at X18 l18 y18 z18 st18 hQ18
  subst l18 y18 z18
  obtain ⟨rfl, N18q, Kc18, p18_0⟩ := hQ18
  have N18 := Fr.app N2 N18q
  refine OG.step (fun tz kz => st18.trans kz) ?_
  have f19 := f3.keep Kc18
  have f20 := f4.keep Kc18 (ninS ne_a1_ap nin0)
  have f21 := f5.keep Kc18
  have f22 := f6.keep Kc18 (ninS ne_gv_ap nin0)
  have f23 := f7.keep Kc18 (ninS ne_gs_ap nin0)
  have f24 := f8.keep Kc18 (ninS ne_a1_ap nin0)
  have f25 := f9.keep Kc18 (ninS ne_a1_ap nin0)
  have f26 := f10.keep Kc18 (ninS ne_a1_ap nin0)
  have f27 := f11.keep Kc18 (ninS ne_a1_ap nin0)
  have f28 := f13.keep Kc18 (ninS (Ne.symm ne_ap_az) nin0)
  have f29 := f14.keep Kc18 (ninS (Ne.symm ne_ap_an) nin0)
  have f30 := f15.keep Kc18 (ninS (Ne.symm ne_ap_al) nin0)
  have K18 := K2.trans Kc18 (allS (Or.inl (List.mem_of_getElem? (i := 0) rfl)) all0)
  obtain ⟨Lz32, X18, N18⟩ : ∃ Lz, Stand p l e rom_7 s m #[(.ref a1), (.int (Int32.ofNat aa)), (.int (Int32.ofNat bb))] below meth c T18 Lz 0 0 ∧ Fr n0 Lz := ⟨_, X18, N18⟩
  show OG _ _ _ _ _ _ _ (T18.setTop (mkF m 11 #[.val (.ref a1), .val (.int (Int32.ofNat aa)), .val (.int (Int32.ofNat bb)), .val (.int (Int32.ofNat (own_rt Pa 4 aa))), .unset, .unset, .unset, .unset, .unset] [(.int (Int32.ofNat (own_rt (own_fc Pa aa) 4 bb)))]))
  have s33 : ∀ tz, Steps p.tables e below (T18.setTop (mkF m 16 #[.val (.ref a1), .val (.int (Int32.ofNat aa)), .val (.int (Int32.ofNat bb)), .val (.int (Int32.ofNat (own_rt Pa 4 aa))), .val (.int (Int32.ofNat (own_rt (own_fc Pa aa) 4 bb))), .unset, .unset, .unset, .unset] [(.int (Int32.ofNat (own_rt (own_fc Pa aa) 4 bb))), (.int (Int32.ofNat (own_rt Pa 4 aa)))])) tz → Steps p.tables e below (T18.setTop (mkF m 11 #[.val (.ref a1), .val (.int (Int32.ofNat aa)), .val (.int (Int32.ofNat bb)), .val (.int (Int32.ofNat (own_rt Pa 4 aa))), .unset, .unset, .unset, .unset, .unset] [(.int (Int32.ofNat (own_rt (own_fc Pa aa) 4 bb)))])) tz := by
    intro tz kz
    refine XS.istore X18.here hx rfl (hb hby d7_11) rfl (l' := #[.val (.ref a1), .val (.int (Int32.ofNat aa)), .val (.int (Int32.ofNat bb)), .val (.int (Int32.ofNat (own_rt Pa 4 aa))), .val (.int (Int32.ofNat (own_rt (own_fc Pa aa) 4 bb))), .unset, .unset, .unset, .unset]) rfl ?_
    refine XS.iloadN X18.here hx rfl (hb hby d7_13) rfl ?_
    refine XS.iload X18.here hx rfl (hb hby d7_14) rfl ?_
    exact kz
  refine OG.step s33 ?_
  by_cases hc16 : (Int32.ofNat (own_rt Pa 4 aa)) = (Int32.ofNat (own_rt (own_fc Pa aa) 4 bb))
  · have s34 : ∀ tz, Steps p.tables e below (T18.setTop (mkF m 19 #[.val (.ref a1), .val (.int (Int32.ofNat aa)), .val (.int (Int32.ofNat bb)), .val (.int (Int32.ofNat (own_rt Pa 4 aa))), .val (.int (Int32.ofNat (own_rt (own_fc Pa aa) 4 bb))), .unset, .unset, .unset, .unset] [])) tz → Steps p.tables e below (T18.setTop (mkF m 16 #[.val (.ref a1), .val (.int (Int32.ofNat aa)), .val (.int (Int32.ofNat bb)), .val (.int (Int32.ofNat (own_rt Pa 4 aa))), .val (.int (Int32.ofNat (own_rt (own_fc Pa aa) 4 bb))), .unset, .unset, .unset, .unset] [(.int (Int32.ofNat (own_rt (own_fc Pa aa) 4 bb))), (.int (Int32.ofNat (own_rt Pa 4 aa)))])) tz := by
      intro tz kz
      refine XS.icmpNo X18.here hx rfl (hb hby d7_16) rfl (teq hc16).2 ?_
      exact kz
    refine OG.step s34 ?_
    exact OG.retV X18 hx hlk Bd.returns (hb hby d7_19) rfl ⟨(own_fc (own_fc Pa aa) bb), Sz, Nx, La, rfl, N18, K18, p18_0, f28, f29, f30, (own_jn_same (own_eqn (by have hq : (own_rt Pa 4 aa) < 4 := hjk.1.2.2.1; omega) (by have hq : (own_rt (own_fc Pa aa) 4 bb) < 4 := hjk.2.1.2.2.1; omega) hc16))⟩ (by decide) (by decide)
  · have s35 : ∀ tz, Steps p.tables e below (T18.setTop (mkF m 21 #[.val (.ref a1), .val (.int (Int32.ofNat aa)), .val (.int (Int32.ofNat bb)), .val (.int (Int32.ofNat (own_rt Pa 4 aa))), .val (.int (Int32.ofNat (own_rt (own_fc Pa aa) 4 bb))), .unset, .unset, .unset, .unset] [(.ref a1)])) tz → Steps p.tables e below (T18.setTop (mkF m 16 #[.val (.ref a1), .val (.int (Int32.ofNat aa)), .val (.int (Int32.ofNat bb)), .val (.int (Int32.ofNat (own_rt Pa 4 aa))), .val (.int (Int32.ofNat (own_rt (own_fc Pa aa) 4 bb))), .unset, .unset, .unset, .unset] [(.int (Int32.ofNat (own_rt (own_fc Pa aa) 4 bb))), (.int (Int32.ofNat (own_rt Pa 4 aa)))])) tz := by
      intro tz kz
      refine XS.icmpYes X18.here hx rfl (pc0 := 16) (pc' := 20) rfl (hb hby d7_16) rfl (feq hc16).2 (by decide) (by decide) ?_
      refine XS.aloadN X18.here hx rfl (hb hby d7_20) rfl rfl ?_
      exact kz
    refine OG.step s35 ?_
    obtain ⟨T36, X36, e36, st36⟩ := getF X18 hx hZ hown (host := "") (Or.inl (hw _ (List.mem_of_getElem? (i := 50) rfl))) Via.refl rfl f25 (g := (mkF m 21 #[.val (.ref a1), .val (.int (Int32.ofNat aa)), .val (.int (Int32.ofNat bb)), .val (.int (Int32.ofNat (own_rt Pa 4 aa))), .val (.int (Int32.ofNat (own_rt (own_fc Pa aa) 4 bb))), .unset, .unset, .unset, .unset] [(.ref a1)])) rfl rfl (hb hby d7_21)
    refine OG.step st36 ?_
    show OG _ _ _ _ _ _ _ (T36.setTop (mkF m 24 #[.val (.ref a1), .val (.int (Int32.ofNat aa)), .val (.int (Int32.ofNat bb)), .val (.int (Int32.ofNat (own_rt Pa 4 aa))), .val (.int (Int32.ofNat (own_rt (own_fc Pa aa) 4 bb))), .unset, .unset, .unset, .unset] [(.ref az)]))
    have s37 : ∀ tz, Steps p.tables e below (T36.setTop (mkF m 25 #[.val (.ref a1), .val (.int (Int32.ofNat aa)), .val (.int (Int32.ofNat bb)), .val (.int (Int32.ofNat (own_rt Pa 4 aa))), .val (.int (Int32.ofNat (own_rt (own_fc Pa aa) 4 bb))), .unset, .unset, .unset, .unset] [(.int (Int32.ofNat (own_rt Pa 4 aa))), (.ref az)])) tz → Steps p.tables e below (T36.setTop (mkF m 24 #[.val (.ref a1), .val (.int (Int32.ofNat aa)), .val (.int (Int32.ofNat bb)), .val (.int (Int32.ofNat (own_rt Pa 4 aa))), .val (.int (Int32.ofNat (own_rt (own_fc Pa aa) 4 bb))), .unset, .unset, .unset, .unset] [(.ref az)])) tz := by
      intro tz kz
      refine XS.iloadN X36.here hx rfl (hb hby d7_24) rfl ?_
      exact kz
    refine OG.step s37 ?_
    have av38 := f28
    obtain ⟨cl38, Ar38, qa_38, Sa_38, Nn_38, Ha_38, Ga_38⟩ := av38
    have hin38 : ¬ ((Int32.ofNat (own_rt Pa 4 aa)) < 0 ∨ cl38.slots.size ≤ ((Int32.ofNat (own_rt Pa 4 aa))).toNatClampNeg) := inb_of Sa_38 ⟨(own_x4 (hjk.1.2.2.1 : (own_rt Pa 4 aa) < 4)).1, (own_x4 (hjk.1.2.2.1 : (own_rt Pa 4 aa) < 4)).2.1⟩
    have hat38 : cl38.slots[((Int32.ofNat (own_rt Pa 4 aa))).toNatClampNeg]? = some (.int (Int32.ofNat (own_g Sz (own_rt Pa 4 aa)))) := Ha_38.at hin38 (own_get hjk.2.2.2.1.1 (hjk.1.2.2.1 : (own_rt Pa 4 aa) < 4))
    refine OG.step (X36.iaload hx (j := (Int32.ofNat (own_rt Pa 4 aa))) (v := (.int (Int32.ofNat (own_g Sz (own_rt Pa 4 aa))))) (by rw [e36]; exact Ar38.1) (State.isArrayOf_alike hZ.alike Ar38.2.1) Ar38.2.2 hin38 hat38 (g := (mkF m 25 #[.val (.ref a1), .val (.int (Int32.ofNat aa)), .val (.int (Int32.ofNat bb)), .val (.int (Int32.ofNat (own_rt Pa 4 aa))), .val (.int (Int32.ofNat (own_rt (own_fc Pa aa) 4 bb))), .unset, .unset, .unset, .unset] [(.int (Int32.ofNat (own_rt Pa 4 aa))), (.ref az)])) rfl rfl (hb hby d7_25)) ?_
    show OG _ _ _ _ _ _ _ (T36.setTop (mkF m 26 #[.val (.ref a1), .val (.int (Int32.ofNat aa)), .val (.int (Int32.ofNat bb)), .val (.int (Int32.ofNat (own_rt Pa 4 aa))), .val (.int (Int32.ofNat (own_rt (own_fc Pa aa) 4 bb))), .unset, .unset, .unset, .unset] [(.int (Int32.ofNat (own_g Sz (own_rt Pa 4 aa))))]))
    have s39 : ∀ tz, Steps p.tables e below (T36.setTop (mkF m 27 #[.val (.ref a1), .val (.int (Int32.ofNat aa)), .val (.int (Int32.ofNat bb)), .val (.int (Int32.ofNat (own_rt Pa 4 aa))), .val (.int (Int32.ofNat (own_rt (own_fc Pa aa) 4 bb))), .unset, .unset, .unset, .unset] [(.ref a1), (.int (Int32.ofNat (own_g Sz (own_rt Pa 4 aa))))])) tz → Steps p.tables e below (T36.setTop (mkF m 26 #[.val (.ref a1), .val (.int (Int32.ofNat aa)), .val (.int (Int32.ofNat bb)), .val (.int (Int32.ofNat (own_rt Pa 4 aa))), .val (.int (Int32.ofNat (own_rt (own_fc Pa aa) 4 bb))), .unset, .unset, .unset, .unset] [(.int (Int32.ofNat (own_g Sz (own_rt Pa 4 aa))))])) tz := by
      intro tz kz
      refine XS.aloadN X36.here hx rfl (hb hby d7_26) rfl rfl ?_
      exact kz
    refine OG.step s39 ?_
    obtain ⟨T40, X40, e40, st40⟩ := getF X36 hx hZ hown (host := "") (Or.inl (hw _ (List.mem_of_getElem? (i := 50) rfl))) Via.refl e36 f25 (g := (mkF m 27 #[.val (.ref a1), .val (.int (Int32.ofNat aa)), .val (.int (Int32.ofNat bb)), .val (.int (Int32.ofNat (own_rt Pa 4 aa))), .val (.int (Int32.ofNat (own_rt (own_fc Pa aa) 4 bb))), .unset, .unset, .unset, .unset] [(.ref a1), (.int (Int32.ofNat (own_g Sz (own_rt Pa 4 aa))))])) rfl rfl (hb hby d7_27)
    refine OG.step st40 ?_
    show OG _ _ _ _ _ _ _ (T40.setTop (mkF m 30 #[.val (.ref a1), .val (.int (Int32.ofNat aa)), .val (.int (Int32.ofNat bb)), .val (.int (Int32.ofNat (own_rt Pa 4 aa))), .val (.int (Int32.ofNat (own_rt (own_fc Pa aa) 4 bb))), .unset, .unset, .unset, .unset] [(.ref az), (.int (Int32.ofNat (own_g Sz (own_rt Pa 4 aa))))]))
    have s41 : ∀ tz, Steps p.tables e below (T40.setTop (mkF m 32 #[.val (.ref a1), .val (.int (Int32.ofNat aa)), .val (.int (Int32.ofNat bb)), .val (.int (Int32.ofNat (own_rt Pa 4 aa))), .val (.int (Int32.ofNat (own_rt (own_fc Pa aa) 4 bb))), .unset, .unset, .unset, .unset] [(.int (Int32.ofNat (own_rt (own_fc Pa aa) 4 bb))), (.ref az), (.int (Int32.ofNat (own_g Sz (own_rt Pa 4 aa))))])) tz → Steps p.tables e below (T40.setTop (mkF m 30 #[.val (.ref a1), .val (.int (Int32.ofNat aa)), .val (.int (Int32.ofNat bb)), .val (.int (Int32.ofNat (own_rt Pa 4 aa))), .val (.int (Int32.ofNat (own_rt (own_fc Pa aa) 4 bb))), .unset, .unset, .unset, .unset] [(.ref az), (.int (Int32.ofNat (own_g Sz (own_rt Pa 4 aa))))])) tz := by
      intro tz kz
      refine XS.iload X40.here hx rfl (hb hby d7_30) rfl ?_
      exact kz
    refine OG.step s41 ?_
    have av42 := f28
    obtain ⟨cl42, Ar42, qa_42, Sa_42, Nn_42, Ha_42, Ga_42⟩ := av42
    have hin42 : ¬ ((Int32.ofNat (own_rt (own_fc Pa aa) 4 bb)) < 0 ∨ cl42.slots.size ≤ ((Int32.ofNat (own_rt (own_fc Pa aa) 4 bb))).toNatClampNeg) := inb_of Sa_42 ⟨(own_x4 (hjk.2.1.2.2.1 : (own_rt (own_fc Pa aa) 4 bb) < 4)).1, (own_x4 (hjk.2.1.2.2.1 : (own_rt (own_fc Pa aa) 4 bb) < 4)).2.1⟩
    have hat42 : cl42.slots[((Int32.ofNat (own_rt (own_fc Pa aa) 4 bb))).toNatClampNeg]? = some (.int (Int32.ofNat (own_g Sz (own_rt (own_fc Pa aa) 4 bb)))) := Ha_42.at hin42 (own_get hjk.2.2.2.1.1 (hjk.2.1.2.2.1 : (own_rt (own_fc Pa aa) 4 bb) < 4))
    refine OG.step (X40.iaload hx (j := (Int32.ofNat (own_rt (own_fc Pa aa) 4 bb))) (v := (.int (Int32.ofNat (own_g Sz (own_rt (own_fc Pa aa) 4 bb))))) (by rw [e40]; exact Ar42.1) (State.isArrayOf_alike hZ.alike Ar42.2.1) Ar42.2.2 hin42 hat42 (g := (mkF m 32 #[.val (.ref a1), .val (.int (Int32.ofNat aa)), .val (.int (Int32.ofNat bb)), .val (.int (Int32.ofNat (own_rt Pa 4 aa))), .val (.int (Int32.ofNat (own_rt (own_fc Pa aa) 4 bb))), .unset, .unset, .unset, .unset] [(.int (Int32.ofNat (own_rt (own_fc Pa aa) 4 bb))), (.ref az), (.int (Int32.ofNat (own_g Sz (own_rt Pa 4 aa))))])) rfl rfl (hb hby d7_32)) ?_
    show OG _ _ _ _ _ _ _ (T40.setTop (mkF m 33 #[.val (.ref a1), .val (.int (Int32.ofNat aa)), .val (.int (Int32.ofNat bb)), .val (.int (Int32.ofNat (own_rt Pa 4 aa))), .val (.int (Int32.ofNat (own_rt (own_fc Pa aa) 4 bb))), .unset, .unset, .unset, .unset] [(.int (Int32.ofNat (own_g Sz (own_rt (own_fc Pa aa) 4 bb)))), (.int (Int32.ofNat (own_g Sz (own_rt Pa 4 aa))))]))
    have J43 : ∀ (sm : Nat) (bg : Nat) (Tj43 : State) (Lj43 : List Loc), Stand p l e rom_7 s m #[(.ref a1), (.int (Int32.ofNat aa)), (.int (Int32.ofNat bb))] below meth c Tj43 Lj43 0 0 → Tj43.heap = T18.heap → Fr n0 Lj43 → (sm = own_sm Sz (own_rt Pa 4 aa) (own_rt (own_fc Pa aa) 4 bb)) → (bg = own_bg Sz (own_rt Pa 4 aa) (own_rt (own_fc Pa aa) 4 bb)) → (sm < 4) → (bg < 4) → OG p e below s (Q7 Z a1 aa bb gv gs ks ap az an al kp kz kn kl Pa Sz Nx La h0 n0) rom_7.cells rom_7.slots (Tj43.setTop (mkF m 56 #[.val (.ref a1), .val (.int (Int32.ofNat aa)), .val (.int (Int32.ofNat bb)), .val (.int (Int32.ofNat (own_rt Pa 4 aa))), .val (.int (Int32.ofNat (own_rt (own_fc Pa aa) 4 bb))), .val (.int (Int32.ofNat sm)), .unset, .unset, .unset] [(.int (Int32.ofNat bg))])) := by
      intro sm bg Tj43 Lj43 Xj43 ej43 Nj43 hsm hbg hs4 hb4
      have s44 : ∀ tz, Steps p.tables e below (Tj43.setTop (mkF m 62 #[.val (.ref a1), .val (.int (Int32.ofNat aa)), .val (.int (Int32.ofNat bb)), .val (.int (Int32.ofNat (own_rt Pa 4 aa))), .val (.int (Int32.ofNat (own_rt (own_fc Pa aa) 4 bb))), .val (.int (Int32.ofNat sm)), .val (.int (Int32.ofNat bg)), .val (.int (Int32.ofNat sm)), .unset] [])) tz → Steps p.tables e below (Tj43.setTop (mkF m 56 #[.val (.ref a1), .val (.int (Int32.ofNat aa)), .val (.int (Int32.ofNat bb)), .val (.int (Int32.ofNat (own_rt Pa 4 aa))), .val (.int (Int32.ofNat (own_rt (own_fc Pa aa) 4 bb))), .val (.int (Int32.ofNat sm)), .unset, .unset, .unset] [(.int (Int32.ofNat bg))])) tz := by
        intro tz kz
        refine XS.istore Xj43.here hx rfl (hb hby d7_56) rfl (l' := #[.val (.ref a1), .val (.int (Int32.ofNat aa)), .val (.int (Int32.ofNat bb)), .val (.int (Int32.ofNat (own_rt Pa 4 aa))), .val (.int (Int32.ofNat (own_rt (own_fc Pa aa) 4 bb))), .val (.int (Int32.ofNat sm)), .val (.int (Int32.ofNat bg)), .unset, .unset]) rfl ?_
        refine XS.iload Xj43.here hx rfl (hb hby d7_58) rfl ?_
        refine XS.istore Xj43.here hx rfl (hb hby d7_60) rfl (l' := #[.val (.ref a1), .val (.int (Int32.ofNat aa)), .val (.int (Int32.ofNat bb)), .val (.int (Int32.ofNat (own_rt Pa 4 aa))), .val (.int (Int32.ofNat (own_rt (own_fc Pa aa) 4 bb))), .val (.int (Int32.ofNat sm)), .val (.int (Int32.ofNat bg)), .val (.int (Int32.ofNat sm)), .unset]) rfl ?_
        exact kz
      refine OG.step s44 ?_
      obtain ⟨f0, hf0, hw0⟩ := own_wk_step (c := sm) (show own_wk Nx 4 (sm + 1) = true by rw [hsm]; exact hjk.2.2.2.2.2.2)
      have s45 : ∀ tz, Steps p.tables e below (Tj43.setTop (mkF m 68 #[.val (.ref a1), .val (.int (Int32.ofNat aa)), .val (.int (Int32.ofNat bb)), .val (.int (Int32.ofNat (own_rt Pa 4 aa))), .val (.int (Int32.ofNat (own_rt (own_fc Pa aa) 4 bb))), .val (.int (Int32.ofNat sm)), .val (.int (Int32.ofNat bg)), .val (.int (Int32.ofNat sm)), .unset] [(.ref a1)])) tz → Steps p.tables e below (Tj43.setTop (mkF m 62 #[.val (.ref a1), .val (.int (Int32.ofNat aa)), .val (.int (Int32.ofNat bb)), .val (.int (Int32.ofNat (own_rt Pa 4 aa))), .val (.int (Int32.ofNat (own_rt (own_fc Pa aa) 4 bb))), .val (.int (Int32.ofNat sm)), .val (.int (Int32.ofNat bg)), .val (.int (Int32.ofNat sm)), .unset] [])) tz := by
        intro tz kz
        refine XS.iload Xj43.here hx rfl (hb hby d7_62) rfl ?_
        refine XS.ifNo Xj43.here hx rfl (hb hby d7_64) rfl ((if0 _ _).trans (flt (own_x4 hs4).1).1) ?_
        refine XS.aloadN Xj43.here hx rfl (hb hby d7_67) rfl rfl ?_
        exact kz
      refine OG.step s45 ?_
      obtain ⟨T46, X46, e46, st46⟩ := getF Xj43 hx hZ hown (host := "") (Or.inl (hw _ (List.mem_of_getElem? (i := 46) rfl))) Via.refl ej43 f20 (g := (mkF m 68 #[.val (.ref a1), .val (.int (Int32.ofNat aa)), .val (.int (Int32.ofNat bb)), .val (.int (Int32.ofNat (own_rt Pa 4 aa))), .val (.int (Int32.ofNat (own_rt (own_fc Pa aa) 4 bb))), .val (.int (Int32.ofNat sm)), .val (.int (Int32.ofNat bg)), .val (.int (Int32.ofNat sm)), .unset] [(.ref a1)])) rfl rfl (hb hby d7_68)
      refine OG.step st46 ?_
      show OG _ _ _ _ _ _ _ (T46.setTop (mkF m 71 #[.val (.ref a1), .val (.int (Int32.ofNat aa)), .val (.int (Int32.ofNat bb)), .val (.int (Int32.ofNat (own_rt Pa 4 aa))), .val (.int (Int32.ofNat (own_rt (own_fc Pa aa) 4 bb))), .val (.int (Int32.ofNat sm)), .val (.int (Int32.ofNat bg)), .val (.int (Int32.ofNat sm)), .unset] [(.ref gv)]))
      have s47 : ∀ tz, Steps p.tables e below (T46.setTop (mkF m 73 #[.val (.ref a1), .val (.int (Int32.ofNat aa)), .val (.int (Int32.ofNat bb)), .val (.int (Int32.ofNat (own_rt Pa 4 aa))), .val (.int (Int32.ofNat (own_rt (own_fc Pa aa) 4 bb))), .val (.int (Int32.ofNat sm)), .val (.int (Int32.ofNat bg)), .val (.int (Int32.ofNat sm)), .unset] [(.int (Int32.ofNat sm)), (.ref gv)])) tz → Steps p.tables e below (T46.setTop (mkF m 71 #[.val (.ref a1), .val (.int (Int32.ofNat aa)), .val (.int (Int32.ofNat bb)), .val (.int (Int32.ofNat (own_rt Pa 4 aa))), .val (.int (Int32.ofNat (own_rt (own_fc Pa aa) 4 bb))), .val (.int (Int32.ofNat sm)), .val (.int (Int32.ofNat bg)), .val (.int (Int32.ofNat sm)), .unset] [(.ref gv)])) tz := by
        intro tz kz
        refine XS.iload X46.here hx rfl (hb hby d7_71) rfl ?_
        exact kz
      refine OG.step s47 ?_
      obtain ⟨cq48, kq48, q48a, q48b, q48c⟩ := isOf hZ e46 f21
      obtain ⟨_, _, ⟨T48, L48, k48, n48⟩, -, X48, ⟨Lc48, hQ48, l48, y48, z48⟩, st48⟩ := X46.virtualBack hx (y := (⟨"com/example/tidegraph/tidegraph/amd64/InterferenceGraph", "first", "(I)I"⟩ : MethodName)) (z := (⟨"com/example/tidegraph/tidegraph/amd64/InterferenceGraph", "first", "(I)I"⟩ : MethodName)) hown (mvT hZ (hw _ (List.mem_of_getElem? (i := 70) rfl))) (mvT hZ (hw _ (List.mem_of_getElem? (i := 71) rfl))) (notFace_of_selects (args := #[]) (mvT hZ (hw _ (List.mem_of_getElem? (i := 73) rfl)))) (mvT hZ (hw _ (List.mem_of_getElem? (i := 73) rfl))) (mvT hZ (hw _ (List.mem_of_getElem? (i := 72) rfl))) (by decide) (backOf (W := 0) (rm10 l Z a0 hw [] gv sm gs ks T18.heap n0 (Nat.le_trans Z0 K18.1) f22 f23 hs4) hZ (hw _ (List.mem_of_getElem? (i := 74) rfl)) (hw _ (List.mem_of_getElem? (i := 2) rfl)) (by decide) (by decide)) q48a q48c (g := (mkF m 73 #[.val (.ref a1), .val (.int (Int32.ofNat aa)), .val (.int (Int32.ofNat bb)), .val (.int (Int32.ofNat (own_rt Pa 4 aa))), .val (.int (Int32.ofNat (own_rt (own_fc Pa aa) 4 bb))), .val (.int (Int32.ofNat sm)), .val (.int (Int32.ofNat bg)), .val (.int (Int32.ofNat sm)), .unset] [(.int (Int32.ofNat sm)), (.ref gv)])) rfl (by rw [hml]; rfl) (Steps.refl _) (argsL := [(.int (Int32.ofNat sm))]) (rest := []) (lenOf pd__I_I rfl) rfl (by show 2 * 0 + _ ≤ _; exact Nat.le_of_eq rfl) (hb hby d7_73) (fun _ _ => ⟨rfl, e46, (by decide : 0 + 0 ≤ _), (by decide : 0 + 0 ≤ _)⟩)
      dsimp only [Pt.U, Pt.locs, Pt.cells, Pt.slots] at X48 l48 y48 z48 st48 hQ48
      subst l48 y48 z48
      obtain ⟨rfl, N48q, e48⟩ := hQ48
      have N48 := Fr.app Nj43 N48q
      refine OG.step (fun tz kz => st48.trans kz) ?_
      obtain ⟨Lz49, X48, N48⟩ : ∃ Lz, Stand p l e rom_7 s m #[(.ref a1), (.int (Int32.ofNat aa)), (.int (Int32.ofNat bb))] below meth c T48 Lz 0 0 ∧ Fr n0 Lz := ⟨_, X48, N48⟩
      show OG _ _ _ _ _ _ _ (T48.setTop (mkF m 76 #[.val (.ref a1), .val (.int (Int32.ofNat aa)), .val (.int (Int32.ofNat bb)), .val (.int (Int32.ofNat (own_rt Pa 4 aa))), .val (.int (Int32.ofNat (own_rt (own_fc Pa aa) 4 bb))), .val (.int (Int32.ofNat sm)), .val (.int (Int32.ofNat bg)), .val (.int (Int32.ofNat sm)), .unset] [(.int (0 : Int32))]))
      have s50 : ∀ tz, Steps p.tables e below (T48.setTop (mkF m 81 #[.val (.ref a1), .val (.int (Int32.ofNat aa)), .val (.int (Int32.ofNat bb)), .val (.int (Int32.ofNat (own_rt Pa 4 aa))), .val (.int (Int32.ofNat (own_rt (own_fc Pa aa) 4 bb))), .val (.int (Int32.ofNat sm)), .val (.int (Int32.ofNat bg)), .val (.int (Int32.ofNat sm)), .val (.int (0 : Int32))] [(.ref a1), (.int (0 : Int32))])) tz → Steps p.tables e below (T48.setTop (mkF m 76 #[.val (.ref a1), .val (.int (Int32.ofNat aa)), .val (.int (Int32.ofNat bb)), .val (.int (Int32.ofNat (own_rt Pa 4 aa))), .val (.int (Int32.ofNat (own_rt (own_fc Pa aa) 4 bb))), .val (.int (Int32.ofNat sm)), .val (.int (Int32.ofNat bg)), .val (.int (Int32.ofNat sm)), .unset] [(.int (0 : Int32))])) tz := by
        intro tz kz
        refine XS.istore X48.here hx rfl (hb hby d7_76) rfl (l' := #[.val (.ref a1), .val (.int (Int32.ofNat aa)), .val (.int (Int32.ofNat bb)), .val (.int (Int32.ofNat (own_rt Pa 4 aa))), .val (.int (Int32.ofNat (own_rt (own_fc Pa aa) 4 bb))), .val (.int (Int32.ofNat sm)), .val (.int (Int32.ofNat bg)), .val (.int (Int32.ofNat sm)), .val (.int (0 : Int32))]) rfl ?_
        refine XS.iload X48.here hx rfl (hb hby d7_78) rfl ?_
        refine XS.aloadN X48.here hx rfl (hb hby d7_80) rfl rfl ?_
        exact kz
      refine OG.step s50 ?_
      obtain ⟨T51, X51, e51, st51⟩ := getF X48 hx hZ hown (host := "") (Or.inl (hw _ (List.mem_of_getElem? (i := 46) rfl))) Via.refl e48 f20 (g := (mkF m 81 #[.val (.ref a1), .val (.int (Int32.ofNat aa)), .val (.int (Int32.ofNat bb)), .val (.int (Int32.ofNat (own_rt Pa 4 aa))), .val (.int (Int32.ofNat (own_rt (own_fc Pa aa) 4 bb))), .val (.int (Int32.ofNat sm)), .val (.int (Int32.ofNat bg)), .val (.int (Int32.ofNat sm)), .val (.int (0 : Int32))] [(.ref a1), (.int (0 : Int32))])) rfl rfl (hb hby d7_81)
      refine OG.step st51 ?_
      show OG _ _ _ _ _ _ _ (T51.setTop (mkF m 84 #[.val (.ref a1), .val (.int (Int32.ofNat aa)), .val (.int (Int32.ofNat bb)), .val (.int (Int32.ofNat (own_rt Pa 4 aa))), .val (.int (Int32.ofNat (own_rt (own_fc Pa aa) 4 bb))), .val (.int (Int32.ofNat sm)), .val (.int (Int32.ofNat bg)), .val (.int (Int32.ofNat sm)), .val (.int (0 : Int32))] [(.ref gv), (.int (0 : Int32))]))
      have s52 : ∀ tz, Steps p.tables e below (T51.setTop (mkF m 86 #[.val (.ref a1), .val (.int (Int32.ofNat aa)), .val (.int (Int32.ofNat bb)), .val (.int (Int32.ofNat (own_rt Pa 4 aa))), .val (.int (Int32.ofNat (own_rt (own_fc Pa aa) 4 bb))), .val (.int (Int32.ofNat sm)), .val (.int (Int32.ofNat bg)), .val (.int (Int32.ofNat sm)), .val (.int (0 : Int32))] [(.int (Int32.ofNat sm)), (.ref gv), (.int (0 : Int32))])) tz → Steps p.tables e below (T51.setTop (mkF m 84 #[.val (.ref a1), .val (.int (Int32.ofNat aa)), .val (.int (Int32.ofNat bb)), .val (.int (Int32.ofNat (own_rt Pa 4 aa))), .val (.int (Int32.ofNat (own_rt (own_fc Pa aa) 4 bb))), .val (.int (Int32.ofNat sm)), .val (.int (Int32.ofNat bg)), .val (.int (Int32.ofNat sm)), .val (.int (0 : Int32))] [(.ref gv), (.int (0 : Int32))])) tz := by
        intro tz kz
        refine XS.iload X51.here hx rfl (hb hby d7_84) rfl ?_
        exact kz
      refine OG.step s52 ?_
      obtain ⟨cq53, kq53, q53a, q53b, q53c⟩ := isOf hZ e51 f21
      obtain ⟨_, _, ⟨T53, L53, k53, n53⟩, -, X53, ⟨Lc53, hQ53, l53, y53, z53⟩, st53⟩ := X51.virtualBack hx (y := (⟨"com/example/tidegraph/tidegraph/amd64/InterferenceGraph", "end", "(I)I"⟩ : MethodName)) (z := (⟨"com/example/tidegraph/tidegraph/amd64/InterferenceGraph", "end", "(I)I"⟩ : MethodName)) hown (mvT hZ (hw _ (List.mem_of_getElem? (i := 75) rfl))) (mvT hZ (hw _ (List.mem_of_getElem? (i := 76) rfl))) (notFace_of_selects (args := #[]) (mvT hZ (hw _ (List.mem_of_getElem? (i := 78) rfl)))) (mvT hZ (hw _ (List.mem_of_getElem? (i := 78) rfl))) (mvT hZ (hw _ (List.mem_of_getElem? (i := 77) rfl))) (by decide) (backOf (W := 1) (rm11 l Z a0 hw [] gv sm gs ks T18.heap n0 (Nat.le_trans Z0 K18.1) f22 f23 hs4) hZ (hw _ (List.mem_of_getElem? (i := 79) rfl)) (hw _ (List.mem_of_getElem? (i := 2) rfl)) (by decide) (by decide)) q53a q53c (g := (mkF m 86 #[.val (.ref a1), .val (.int (Int32.ofNat aa)), .val (.int (Int32.ofNat bb)), .val (.int (Int32.ofNat (own_rt Pa 4 aa))), .val (.int (Int32.ofNat (own_rt (own_fc Pa aa) 4 bb))), .val (.int (Int32.ofNat sm)), .val (.int (Int32.ofNat bg)), .val (.int (Int32.ofNat sm)), .val (.int (0 : Int32))] [(.int (Int32.ofNat sm)), (.ref gv), (.int (0 : Int32))])) rfl (by rw [hml]; rfl) (Steps.refl _) (argsL := [(.int (Int32.ofNat sm))]) (rest := [(.int (0 : Int32))]) (lenOf pd__I_I rfl) rfl (by show 2 * 0 + _ ≤ _; exact Nat.le_of_eq rfl) (hb hby d7_86) (fun _ _ => ⟨rfl, e51, (by decide : 0 + 0 ≤ _), (by decide : 0 + 0 ≤ _)⟩)
      dsimp only [Pt.U, Pt.locs, Pt.cells, Pt.slots] at X53 l53 y53 z53 st53 hQ53
      subst l53 y53 z53
      obtain ⟨rfl, N53q, e53⟩ := hQ53
      have N53 := Fr.app N48 N53q
      refine OG.step (fun tz kz => st53.trans kz) ?_
      obtain ⟨Lz54, X53, N53⟩ : ∃ Lz, Stand p l e rom_7 s m #[(.ref a1), (.int (Int32.ofNat aa)), (.int (Int32.ofNat bb))] below meth c T53 Lz 0 0 ∧ Fr n0 Lz := ⟨_, X53, N53⟩
      show OG _ _ _ _ _ _ _ (T53.setTop (mkF m 89 #[.val (.ref a1), .val (.int (Int32.ofNat aa)), .val (.int (Int32.ofNat bb)), .val (.int (Int32.ofNat (own_rt Pa 4 aa))), .val (.int (Int32.ofNat (own_rt (own_fc Pa aa) 4 bb))), .val (.int (Int32.ofNat sm)), .val (.int (Int32.ofNat bg)), .val (.int (Int32.ofNat sm)), .val (.int (0 : Int32))] [(.int (0 : Int32)), (.int (0 : Int32))]))
      have s55 : ∀ tz, Steps p.tables e below (T53.setTop (mkF m 118 #[.val (.ref a1), .val (.int (Int32.ofNat aa)), .val (.int (Int32.ofNat bb)), .val (.int (Int32.ofNat (own_rt Pa 4 aa))), .val (.int (Int32.ofNat (own_rt (own_fc Pa aa) 4 bb))), .val (.int (Int32.ofNat sm)), .val (.int (Int32.ofNat bg)), .val (.int (Int32.ofNat sm)), .val (.int (0 : Int32))] [(.ref a1)])) tz → Steps p.tables e below (T53.setTop (mkF m 89 #[.val (.ref a1), .val (.int (Int32.ofNat aa)), .val (.int (Int32.ofNat bb)), .val (.int (Int32.ofNat (own_rt Pa 4 aa))), .val (.int (Int32.ofNat (own_rt (own_fc Pa aa) 4 bb))), .val (.int (Int32.ofNat sm)), .val (.int (Int32.ofNat bg)), .val (.int (Int32.ofNat sm)), .val (.int (0 : Int32))] [(.int (0 : Int32)), (.int (0 : Int32))])) tz := by
        intro tz kz
        refine XS.icmpYes X53.here hx rfl (pc0 := 89) (pc' := 117) rfl (hb hby d7_89) rfl (flt (by decide)).2.1 (by decide) (by decide) ?_
        refine XS.aloadN X53.here hx rfl (hb hby d7_117) rfl rfl ?_
        exact kz
      refine OG.step s55 ?_
      obtain ⟨T56, X56, e56, st56⟩ := getF X53 hx hZ hown (host := "") (Or.inl (hw _ (List.mem_of_getElem? (i := 52) rfl))) Via.refl e53 f26 (g := (mkF m 118 #[.val (.ref a1), .val (.int (Int32.ofNat aa)), .val (.int (Int32.ofNat bb)), .val (.int (Int32.ofNat (own_rt Pa 4 aa))), .val (.int (Int32.ofNat (own_rt (own_fc Pa aa) 4 bb))), .val (.int (Int32.ofNat sm)), .val (.int (Int32.ofNat bg)), .val (.int (Int32.ofNat sm)), .val (.int (0 : Int32))] [(.ref a1)])) rfl rfl (hb hby d7_118)
      refine OG.step st56 ?_
      show OG _ _ _ _ _ _ _ (T56.setTop (mkF m 121 #[.val (.ref a1), .val (.int (Int32.ofNat aa)), .val (.int (Int32.ofNat bb)), .val (.int (Int32.ofNat (own_rt Pa 4 aa))), .val (.int (Int32.ofNat (own_rt (own_fc Pa aa) 4 bb))), .val (.int (Int32.ofNat sm)), .val (.int (Int32.ofNat bg)), .val (.int (Int32.ofNat sm)), .val (.int (0 : Int32))] [(.ref an)]))
      have s57 : ∀ tz, Steps p.tables e below (T56.setTop (mkF m 123 #[.val (.ref a1), .val (.int (Int32.ofNat aa)), .val (.int (Int32.ofNat bb)), .val (.int (Int32.ofNat (own_rt Pa 4 aa))), .val (.int (Int32.ofNat (own_rt (own_fc Pa aa) 4 bb))), .val (.int (Int32.ofNat sm)), .val (.int (Int32.ofNat bg)), .val (.int (Int32.ofNat sm)), .val (.int (0 : Int32))] [(.int (Int32.ofNat sm)), (.ref an)])) tz → Steps p.tables e below (T56.setTop (mkF m 121 #[.val (.ref a1), .val (.int (Int32.ofNat aa)), .val (.int (Int32.ofNat bb)), .val (.int (Int32.ofNat (own_rt Pa 4 aa))), .val (.int (Int32.ofNat (own_rt (own_fc Pa aa) 4 bb))), .val (.int (Int32.ofNat sm)), .val (.int (Int32.ofNat bg)), .val (.int (Int32.ofNat sm)), .val (.int (0 : Int32))] [(.ref an)])) tz := by
        intro tz kz
        refine XS.iload X56.here hx rfl (hb hby d7_121) rfl ?_
        exact kz
      refine OG.step s57 ?_
      have av58 := f29
      obtain ⟨cl58, Ar58, qa_58, Sa_58, Nn_58, Ha_58, Ga_58⟩ := av58
      have hin58 : ¬ ((Int32.ofNat sm) < 0 ∨ cl58.slots.size ≤ ((Int32.ofNat sm)).toNatClampNeg) := inb_of Sa_58 ⟨(own_x4 hs4).1, (own_x4 hs4).2.1⟩
      have hat58 : cl58.slots[((Int32.ofNat sm)).toNatClampNeg]? = some (.int (own_nx (own_g Nx sm))) := Ha_58.at hin58 (own_getn hjk.2.2.2.2.1.1 hs4)
      refine OG.step (X56.iaload hx (j := (Int32.ofNat sm)) (v := (.int (own_nx (own_g Nx sm)))) (by rw [e56]; exact Ar58.1) (State.isArrayOf_alike hZ.alike Ar58.2.1) Ar58.2.2 hin58 hat58 (g := (mkF m 123 #[.val (.ref a1), .val (.int (Int32.ofNat aa)), .val (.int (Int32.ofNat bb)), .val (.int (Int32.ofNat (own_rt Pa 4 aa))), .val (.int (Int32.ofNat (own_rt (own_fc Pa aa) 4 bb))), .val (.int (Int32.ofNat sm)), .val (.int (Int32.ofNat bg)), .val (.int (Int32.ofNat sm)), .val (.int (0 : Int32))] [(.int (Int32.ofNat sm)), (.ref an)])) rfl rfl (hb hby d7_123)) ?_
      show OG _ _ _ _ _ _ _ (T56.setTop (mkF m 124 #[.val (.ref a1), .val (.int (Int32.ofNat aa)), .val (.int (Int32.ofNat bb)), .val (.int (Int32.ofNat (own_rt Pa 4 aa))), .val (.int (Int32.ofNat (own_rt (own_fc Pa aa) 4 bb))), .val (.int (Int32.ofNat sm)), .val (.int (Int32.ofNat bg)), .val (.int (Int32.ofNat sm)), .val (.int (0 : Int32))] [(.int (own_nx (own_g Nx sm)))]))
      have s59 : ∀ tz, Steps p.tables e below (T56.setTop (mkF m 62 #[.val (.ref a1), .val (.int (Int32.ofNat aa)), .val (.int (Int32.ofNat bb)), .val (.int (Int32.ofNat (own_rt Pa 4 aa))), .val (.int (Int32.ofNat (own_rt (own_fc Pa aa) 4 bb))), .val (.int (Int32.ofNat sm)), .val (.int (Int32.ofNat bg)), .val (.int (own_nx (own_g Nx sm))), .val (.int (0 : Int32))] [])) tz → Steps p.tables e below (T56.setTop (mkF m 124 #[.val (.ref a1), .val (.int (Int32.ofNat aa)), .val (.int (Int32.ofNat bb)), .val (.int (Int32.ofNat (own_rt Pa 4 aa))), .val (.int (Int32.ofNat (own_rt (own_fc Pa aa) 4 bb))), .val (.int (Int32.ofNat sm)), .val (.int (Int32.ofNat bg)), .val (.int (Int32.ofNat sm)), .val (.int (0 : Int32))] [(.int (own_nx (own_g Nx sm)))])) tz := by
        intro tz kz
        refine XS.istore X56.here hx rfl (hb hby d7_124) rfl (l' := #[.val (.ref a1), .val (.int (Int32.ofNat aa)), .val (.int (Int32.ofNat bb)), .val (.int (Int32.ofNat (own_rt Pa 4 aa))), .val (.int (Int32.ofNat (own_rt (own_fc Pa aa) 4 bb))), .val (.int (Int32.ofNat sm)), .val (.int (Int32.ofNat bg)), .val (.int (own_nx (own_g Nx sm))), .val (.int (0 : Int32))]) rfl ?_
        refine XS.goto X56.here hx rfl (pc0 := 126) (pc' := 62) rfl (hb hby d7_126) (by decide) (by decide) ?_
        exact kz
      refine OG.step s59 ?_
      have J60 : ∀ (f : Nat) (cc : Nat) (Tj60 : State) (Lj60 : List Loc), Stand p l e rom_7 s m #[(.ref a1), (.int (Int32.ofNat aa)), (.int (Int32.ofNat bb))] below meth c Tj60 Lj60 0 0 → Tj60.heap = T18.heap → Fr n0 Lj60 → (cc ≤ 4) → (own_wk Nx f cc = true) → OG p e below s (Q7 Z a1 aa bb gv gs ks ap az an al kp kz kn kl Pa Sz Nx La h0 n0) rom_7.cells rom_7.slots (Tj60.setTop (mkF m 62 #[.val (.ref a1), .val (.int (Int32.ofNat aa)), .val (.int (Int32.ofNat bb)), .val (.int (Int32.ofNat (own_rt Pa 4 aa))), .val (.int (Int32.ofNat (own_rt (own_fc Pa aa) 4 bb))), .val (.int (Int32.ofNat sm)), .val (.int (Int32.ofNat bg)), .val (.int (own_nx cc)), .val (.int (0 : Int32))] [])) := by
        intro f
        induction f using Nat.strongRecOn with
        | _ f ih =>
          intro cc Tj60 Lj60 Xj60 ej60 Nj60 hcc hwk
          cases cc with
          | zero =>
            show OG _ _ _ _ _ _ _ (Tj60.setTop (mkF m 62 #[.val (.ref a1), .val (.int (Int32.ofNat aa)), .val (.int (Int32.ofNat bb)), .val (.int (Int32.ofNat (own_rt Pa 4 aa))), .val (.int (Int32.ofNat (own_rt (own_fc Pa aa) 4 bb))), .val (.int (Int32.ofNat sm)), .val (.int (Int32.ofNat bg)), .val (.int (-1 : Int32)), .val (.int (0 : Int32))] []))
            have s61 : ∀ tz, Steps p.tables e below (Tj60.setTop (mkF m 130 #[.val (.ref a1), .val (.int (Int32.ofNat aa)), .val (.int (Int32.ofNat bb)), .val (.int (Int32.ofNat (own_rt Pa 4 aa))), .val (.int (Int32.ofNat (own_rt (own_fc Pa aa) 4 bb))), .val (.int (Int32.ofNat sm)), .val (.int (Int32.ofNat bg)), .val (.int (-1 : Int32)), .val (.int (0 : Int32))] [(.ref a1)])) tz → Steps p.tables e below (Tj60.setTop (mkF m 62 #[.val (.ref a1), .val (.int (Int32.ofNat aa)), .val (.int (Int32.ofNat bb)), .val (.int (Int32.ofNat (own_rt Pa 4 aa))), .val (.int (Int32.ofNat (own_rt (own_fc Pa aa) 4 bb))), .val (.int (Int32.ofNat sm)), .val (.int (Int32.ofNat bg)), .val (.int (-1 : Int32)), .val (.int (0 : Int32))] [])) tz := by
              intro tz kz
              refine XS.iload Xj60.here hx rfl (hb hby d7_62) rfl ?_
              refine XS.ifYes Xj60.here hx rfl (pc0 := 64) (pc' := 129) rfl (hb hby d7_64) rfl ((if0 _ _).trans (tlt (by decide)).1) (by decide) (by decide) ?_
              refine XS.aloadN Xj60.here hx rfl (hb hby d7_129) rfl rfl ?_
              exact kz
            refine OG.step s61 ?_
            obtain ⟨T62, X62, e62, st62⟩ := getF Xj60 hx hZ hown (host := "") (Or.inl (hw _ (List.mem_of_getElem? (i := 48) rfl))) Via.refl ej60 f24 (g := (mkF m 130 #[.val (.ref a1), .val (.int (Int32.ofNat aa)), .val (.int (Int32.ofNat bb)), .val (.int (Int32.ofNat (own_rt Pa 4 aa))), .val (.int (Int32.ofNat (own_rt (own_fc Pa aa) 4 bb))), .val (.int (Int32.ofNat sm)), .val (.int (Int32.ofNat bg)), .val (.int (-1 : Int32)), .val (.int (0 : Int32))] [(.ref a1)])) rfl rfl (hb hby d7_130)
            refine OG.step st62 ?_
            show OG _ _ _ _ _ _ _ (T62.setTop (mkF m 133 #[.val (.ref a1), .val (.int (Int32.ofNat aa)), .val (.int (Int32.ofNat bb)), .val (.int (Int32.ofNat (own_rt Pa 4 aa))), .val (.int (Int32.ofNat (own_rt (own_fc Pa aa) 4 bb))), .val (.int (Int32.ofNat sm)), .val (.int (Int32.ofNat bg)), .val (.int (-1 : Int32)), .val (.int (0 : Int32))] [(.ref ap)]))
            have s63 : ∀ tz, Steps p.tables e below (T62.setTop (mkF m 137 #[.val (.ref a1), .val (.int (Int32.ofNat aa)), .val (.int (Int32.ofNat bb)), .val (.int (Int32.ofNat (own_rt Pa 4 aa))), .val (.int (Int32.ofNat (own_rt (own_fc Pa aa) 4 bb))), .val (.int (Int32.ofNat sm)), .val (.int (Int32.ofNat bg)), .val (.int (-1 : Int32)), .val (.int (0 : Int32))] [(.int (Int32.ofNat bg)), (.int (Int32.ofNat sm)), (.ref ap)])) tz → Steps p.tables e below (T62.setTop (mkF m 133 #[.val (.ref a1), .val (.int (Int32.ofNat aa)), .val (.int (Int32.ofNat bb)), .val (.int (Int32.ofNat (own_rt Pa 4 aa))), .val (.int (Int32.ofNat (own_rt (own_fc Pa aa) 4 bb))), .val (.int (Int32.ofNat sm)), .val (.int (Int32.ofNat bg)), .val (.int (-1 : Int32)), .val (.int (0 : Int32))] [(.ref ap)])) tz := by
              intro tz kz
              refine XS.iload X62.here hx rfl (hb hby d7_133) rfl ?_
              refine XS.iload X62.here hx rfl (hb hby d7_135) rfl ?_
              exact kz
            refine OG.step s63 ?_
            have av64 := p18_0
            obtain ⟨cl64, Ar64, qa_64, Sa_64, Nn_64, Ha_64, Ga_64⟩ := av64
            have hin64 : ¬ ((Int32.ofNat sm) < 0 ∨ cl64.slots.size ≤ ((Int32.ofNat sm)).toNatClampNeg) := inb_of Sa_64 ⟨(own_x4 hs4).1, (own_x4 hs4).2.1⟩
            obtain ⟨T65, h65, X65, e65, W65, st65⟩ := stI X62 hx hZ e62 Ar64 (j := (Int32.ofNat sm)) hin64 (g := (mkF m 137 #[.val (.ref a1), .val (.int (Int32.ofNat aa)), .val (.int (Int32.ofNat bb)), .val (.int (Int32.ofNat (own_rt Pa 4 aa))), .val (.int (Int32.ofNat (own_rt (own_fc Pa aa) 4 bb))), .val (.int (Int32.ofNat sm)), .val (.int (Int32.ofNat bg)), .val (.int (-1 : Int32)), .val (.int (0 : Int32))] [(.int (Int32.ofNat bg)), (.int (Int32.ofNat sm)), (.ref ap)])) rfl rfl (hb hby d7_137)
            refine OG.step st65 ?_
            have Va65 := Arv.set Ar64 qa_64 Sa_64 Nn_64 Ha_64 Ga_64 rfl W65 (sm) (own_x4 hs4).2.2 (own_len hjk.2.2.1.1 hs4)
            have Va65 : Arv Z h65 ap kp .int (4 : Int32) ((own_vl (own_fc (own_fc Pa aa) bb)).set sm (.int (Int32.ofNat bg))) (.int (0 : Int32)) := Va65
            have V65 : Arv Z h65 ap kp .int (4 : Int32) (own_vl ((own_fc (own_fc Pa aa) bb).set sm bg)) (.int (0 : Int32)) := by rw [own_set (own_fc (own_fc Pa aa) bb) sm bg] at Va65; exact Va65
            have f66 := f19.wr W65
            have f67 := f20.other W65 (Or.inl ne_a1_ap)
            have f68 := f21.wr W65
            have f69 := f22.other W65 (Or.inl ne_gv_ap)
            have f70 := f23.other W65 ne_gs_ap
            have f71 := f24.other W65 (Or.inl ne_a1_ap)
            have f72 := f25.other W65 (Or.inl ne_a1_ap)
            have f73 := f26.other W65 (Or.inl ne_a1_ap)
            have f74 := f27.other W65 (Or.inl ne_a1_ap)
            have f75 := f28.other W65 (Ne.symm ne_ap_az)
            have f76 := f29.other W65 (Ne.symm ne_ap_an)
            have f77 := f30.other W65 (Ne.symm ne_ap_al)
            have K65 := K18.wr W65 (Or.inl (List.mem_of_getElem? (i := 0) rfl))
            have N65 := Fr.snoc X65 Nj60 g_ap
            obtain ⟨Lz78, X65, N65⟩ : ∃ Lz, Stand p l e rom_7 s m #[(.ref a1), (.int (Int32.ofNat aa)), (.int (Int32.ofNat bb))] below meth c T65 Lz 0 0 ∧ Fr n0 Lz := ⟨_, X65, N65⟩
            show OG _ _ _ _ _ _ _ (T65.setTop (mkF m 138 #[.val (.ref a1), .val (.int (Int32.ofNat aa)), .val (.int (Int32.ofNat bb)), .val (.int (Int32.ofNat (own_rt Pa 4 aa))), .val (.int (Int32.ofNat (own_rt (own_fc Pa aa) 4 bb))), .val (.int (Int32.ofNat sm)), .val (.int (Int32.ofNat bg)), .val (.int (-1 : Int32)), .val (.int (0 : Int32))] []))
            have s79 : ∀ tz, Steps p.tables e below (T65.setTop (mkF m 139 #[.val (.ref a1), .val (.int (Int32.ofNat aa)), .val (.int (Int32.ofNat bb)), .val (.int (Int32.ofNat (own_rt Pa 4 aa))), .val (.int (Int32.ofNat (own_rt (own_fc Pa aa) 4 bb))), .val (.int (Int32.ofNat sm)), .val (.int (Int32.ofNat bg)), .val (.int (-1 : Int32)), .val (.int (0 : Int32))] [(.ref a1)])) tz → Steps p.tables e below (T65.setTop (mkF m 138 #[.val (.ref a1), .val (.int (Int32.ofNat aa)), .val (.int (Int32.ofNat bb)), .val (.int (Int32.ofNat (own_rt Pa 4 aa))), .val (.int (Int32.ofNat (own_rt (own_fc Pa aa) 4 bb))), .val (.int (Int32.ofNat sm)), .val (.int (Int32.ofNat bg)), .val (.int (-1 : Int32)), .val (.int (0 : Int32))] [])) tz := by
              intro tz kz
              refine XS.aloadN X65.here hx rfl (hb hby d7_138) rfl rfl ?_
              exact kz
            refine OG.step s79 ?_
            obtain ⟨T80, X80, e80, st80⟩ := getF X65 hx hZ hown (host := "") (Or.inl (hw _ (List.mem_of_getElem? (i := 50) rfl))) Via.refl e65 f72 (g := (mkF m 139 #[.val (.ref a1), .val (.int (Int32.ofNat aa)), .val (.int (Int32.ofNat bb)), .val (.int (Int32.ofNat (own_rt Pa 4 aa))), .val (.int (Int32.ofNat (own_rt (own_fc Pa aa) 4 bb))), .val (.int (Int32.ofNat sm)), .val (.int (Int32.ofNat bg)), .val (.int (-1 : Int32)), .val (.int (0 : Int32))] [(.ref a1)])) rfl rfl (hb hby d7_139)
            refine OG.step st80 ?_
            show OG _ _ _ _ _ _ _ (T80.setTop (mkF m 142 #[.val (.ref a1), .val (.int (Int32.ofNat aa)), .val (.int (Int32.ofNat bb)), .val (.int (Int32.ofNat (own_rt Pa 4 aa))), .val (.int (Int32.ofNat (own_rt (own_fc Pa aa) 4 bb))), .val (.int (Int32.ofNat sm)), .val (.int (Int32.ofNat bg)), .val (.int (-1 : Int32)), .val (.int (0 : Int32))] [(.ref az)]))
            have s81 : ∀ tz, Steps p.tables e below (T80.setTop (mkF m 145 #[.val (.ref a1), .val (.int (Int32.ofNat aa)), .val (.int (Int32.ofNat bb)), .val (.int (Int32.ofNat (own_rt Pa 4 aa))), .val (.int (Int32.ofNat (own_rt (own_fc Pa aa) 4 bb))), .val (.int (Int32.ofNat sm)), .val (.int (Int32.ofNat bg)), .val (.int (-1 : Int32)), .val (.int (0 : Int32))] [(.int (Int32.ofNat bg)), (.ref az), (.int (Int32.ofNat bg)), (.ref az)])) tz → Steps p.tables e below (T80.setTop (mkF m 142 #[.val (.ref a1), .val (.int (Int32.ofNat aa)), .val (.int (Int32.ofNat bb)), .val (.int (Int32.ofNat (own_rt Pa 4 aa))), .val (.int (Int32.ofNat (own_rt (own_fc Pa aa) 4 bb))), .val (.int (Int32.ofNat sm)), .val (.int (Int32.ofNat bg)), .val (.int (-1 : Int32)), .val (.int (0 : Int32))] [(.ref az)])) tz := by
              intro tz kz
              refine XS.iload X80.here hx rfl (hb hby d7_142) rfl ?_
              refine XT.dup2 X80.here hx rfl (hb hby d7_144) rfl rfl rfl ?_
              exact kz
            refine OG.step s81 ?_
            have av82 := f75
            obtain ⟨cl82, Ar82, qa_82, Sa_82, Nn_82, Ha_82, Ga_82⟩ := av82
            have hin82 : ¬ ((Int32.ofNat bg) < 0 ∨ cl82.slots.size ≤ ((Int32.ofNat bg)).toNatClampNeg) := inb_of Sa_82 ⟨(own_x4 hb4).1, (own_x4 hb4).2.1⟩
            have hat82 : cl82.slots[((Int32.ofNat bg)).toNatClampNeg]? = some (.int (Int32.ofNat (own_g Sz bg))) := Ha_82.at hin82 (own_get hjk.2.2.2.1.1 hb4)
            refine OG.step (X80.iaload hx (j := (Int32.ofNat bg)) (v := (.int (Int32.ofNat (own_g Sz bg)))) (by rw [e80]; exact Ar82.1) (State.isArrayOf_alike hZ.alike Ar82.2.1) Ar82.2.2 hin82 hat82 (g := (mkF m 145 #[.val (.ref a1), .val (.int (Int32.ofNat aa)), .val (.int (Int32.ofNat bb)), .val (.int (Int32.ofNat (own_rt Pa 4 aa))), .val (.int (Int32.ofNat (own_rt (own_fc Pa aa) 4 bb))), .val (.int (Int32.ofNat sm)), .val (.int (Int32.ofNat bg)), .val (.int (-1 : Int32)), .val (.int (0 : Int32))] [(.int (Int32.ofNat bg)), (.ref az), (.int (Int32.ofNat bg)), (.ref az)])) rfl rfl (hb hby d7_145)) ?_
            show OG _ _ _ _ _ _ _ (T80.setTop (mkF m 146 #[.val (.ref a1), .val (.int (Int32.ofNat aa)), .val (.int (Int32.ofNat bb)), .val (.int (Int32.ofNat (own_rt Pa 4 aa))), .val (.int (Int32.ofNat (own_rt (own_fc Pa aa) 4 bb))), .val (.int (Int32.ofNat sm)), .val (.int (Int32.ofNat bg)), .val (.int (-1 : Int32)), .val (.int (0 : Int32))] [(.int (Int32.ofNat (own_g Sz bg))), (.int (Int32.ofNat bg)), (.ref az)]))
            have s83 : ∀ tz, Steps p.tables e below (T80.setTop (mkF m 147 #[.val (.ref a1), .val (.int (Int32.ofNat aa)), .val (.int (Int32.ofNat bb)), .val (.int (Int32.ofNat (own_rt Pa 4 aa))), .val (.int (Int32.ofNat (own_rt (own_fc Pa aa) 4 bb))), .val (.int (Int32.ofNat sm)), .val (.int (Int32.ofNat bg)), .val (.int (-1 : Int32)), .val (.int (0 : Int32))] [(.ref a1), (.int (Int32.ofNat (own_g Sz bg))), (.int (Int32.ofNat bg)), (.ref az)])) tz → Steps p.tables e below (T80.setTop (mkF m 146 #[.val (.ref a1), .val (.int (Int32.ofNat aa)), .val (.int (Int32.ofNat bb)), .val (.int (Int32.ofNat (own_rt Pa 4 aa))), .val (.int (Int32.ofNat (own_rt (own_fc Pa aa) 4 bb))), .val (.int (Int32.ofNat sm)), .val (.int (Int32.ofNat bg)), .val (.int (-1 : Int32)), .val (.int (0 : Int32))] [(.int (Int32.ofNat (own_g Sz bg))), (.int (Int32.ofNat bg)), (.ref az)])) tz := by
              intro tz kz
              refine XS.aloadN X80.here hx rfl (hb hby d7_146) rfl rfl ?_
              exact kz
            refine OG.step s83 ?_
            obtain ⟨T84, X84, e84, st84⟩ := getF X80 hx hZ hown (host := "") (Or.inl (hw _ (List.mem_of_getElem? (i := 50) rfl))) Via.refl e80 f72 (g := (mkF m 147 #[.val (.ref a1), .val (.int (Int32.ofNat aa)), .val (.int (Int32.ofNat bb)), .val (.int (Int32.ofNat (own_rt Pa 4 aa))), .val (.int (Int32.ofNat (own_rt (own_fc Pa aa) 4 bb))), .val (.int (Int32.ofNat sm)), .val (.int (Int32.ofNat bg)), .val (.int (-1 : Int32)), .val (.int (0 : Int32))] [(.ref a1), (.int (Int32.ofNat (own_g Sz bg))), (.int (Int32.ofNat bg)), (.ref az)])) rfl rfl (hb hby d7_147)
            refine OG.step st84 ?_
            show OG _ _ _ _ _ _ _ (T84.setTop (mkF m 150 #[.val (.ref a1), .val (.int (Int32.ofNat aa)), .val (.int (Int32.ofNat bb)), .val (.int (Int32.ofNat (own_rt Pa 4 aa))), .val (.int (Int32.ofNat (own_rt (own_fc Pa aa) 4 bb))), .val (.int (Int32.ofNat sm)), .val (.int (Int32.ofNat bg)), .val (.int (-1 : Int32)), .val (.int (0 : Int32))] [(.ref az), (.int (Int32.ofNat (own_g Sz bg))), (.int (Int32.ofNat bg)), (.ref az)]))
            have s85 : ∀ tz, Steps p.tables e below (T84.setTop (mkF m 152 #[.val (.ref a1), .val (.int (Int32.ofNat aa)), .val (.int (Int32.ofNat bb)), .val (.int (Int32.ofNat (own_rt Pa 4 aa))), .val (.int (Int32.ofNat (own_rt (own_fc Pa aa) 4 bb))), .val (.int (Int32.ofNat sm)), .val (.int (Int32.ofNat bg)), .val (.int (-1 : Int32)), .val (.int (0 : Int32))] [(.int (Int32.ofNat sm)), (.ref az), (.int (Int32.ofNat (own_g Sz bg))), (.int (Int32.ofNat bg)), (.ref az)])) tz → Steps p.tables e below (T84.setTop (mkF m 150 #[.val (.ref a1), .val (.int (Int32.ofNat aa)), .val (.int (Int32.ofNat bb)), .val (.int (Int32.ofNat (own_rt Pa 4 aa))), .val (.int (Int32.ofNat (own_rt (own_fc Pa aa) 4 bb))), .val (.int (Int32.ofNat sm)), .val (.int (Int32.ofNat bg)), .val (.int (-1 : Int32)), .val (.int (0 : Int32))] [(.ref az), (.int (Int32.ofNat (own_g Sz bg))), (.int (Int32.ofNat bg)), (.ref az)])) tz := by
              intro tz kz
              refine XS.iload X84.here hx rfl (hb hby d7_150) rfl ?_
              exact kz
            refine OG.step s85 ?_
            have av86 := f75
            obtain ⟨cl86, Ar86, qa_86, Sa_86, Nn_86, Ha_86, Ga_86⟩ := av86
            have hin86 : ¬ ((Int32.ofNat sm) < 0 ∨ cl86.slots.size ≤ ((Int32.ofNat sm)).toNatClampNeg) := inb_of Sa_86 ⟨(own_x4 hs4).1, (own_x4 hs4).2.1⟩
            have hat86 : cl86.slots[((Int32.ofNat sm)).toNatClampNeg]? = some (.int (Int32.ofNat (own_g Sz sm))) := Ha_86.at hin86 (own_get hjk.2.2.2.1.1 hs4)
            refine OG.step (X84.iaload hx (j := (Int32.ofNat sm)) (v := (.int (Int32.ofNat (own_g Sz sm)))) (by rw [e84]; exact Ar86.1) (State.isArrayOf_alike hZ.alike Ar86.2.1) Ar86.2.2 hin86 hat86 (g := (mkF m 152 #[.val (.ref a1), .val (.int (Int32.ofNat aa)), .val (.int (Int32.ofNat bb)), .val (.int (Int32.ofNat (own_rt Pa 4 aa))), .val (.int (Int32.ofNat (own_rt (own_fc Pa aa) 4 bb))), .val (.int (Int32.ofNat sm)), .val (.int (Int32.ofNat bg)), .val (.int (-1 : Int32)), .val (.int (0 : Int32))] [(.int (Int32.ofNat sm)), (.ref az), (.int (Int32.ofNat (own_g Sz bg))), (.int (Int32.ofNat bg)), (.ref az)])) rfl rfl (hb hby d7_152)) ?_
            show OG _ _ _ _ _ _ _ (T84.setTop (mkF m 153 #[.val (.ref a1), .val (.int (Int32.ofNat aa)), .val (.int (Int32.ofNat bb)), .val (.int (Int32.ofNat (own_rt Pa 4 aa))), .val (.int (Int32.ofNat (own_rt (own_fc Pa aa) 4 bb))), .val (.int (Int32.ofNat sm)), .val (.int (Int32.ofNat bg)), .val (.int (-1 : Int32)), .val (.int (0 : Int32))] [(.int (Int32.ofNat (own_g Sz sm))), (.int (Int32.ofNat (own_g Sz bg))), (.int (Int32.ofNat bg)), (.ref az)]))
            have s87 : ∀ tz, Steps p.tables e below (T84.setTop (mkF m 154 #[.val (.ref a1), .val (.int (Int32.ofNat aa)), .val (.int (Int32.ofNat bb)), .val (.int (Int32.ofNat (own_rt Pa 4 aa))), .val (.int (Int32.ofNat (own_rt (own_fc Pa aa) 4 bb))), .val (.int (Int32.ofNat sm)), .val (.int (Int32.ofNat bg)), .val (.int (-1 : Int32)), .val (.int (0 : Int32))] [(.int ((Int32.ofNat (own_g Sz bg)) + (Int32.ofNat (own_g Sz sm)))), (.int (Int32.ofNat bg)), (.ref az)])) tz → Steps p.tables e below (T84.setTop (mkF m 153 #[.val (.ref a1), .val (.int (Int32.ofNat aa)), .val (.int (Int32.ofNat bb)), .val (.int (Int32.ofNat (own_rt Pa 4 aa))), .val (.int (Int32.ofNat (own_rt (own_fc Pa aa) 4 bb))), .val (.int (Int32.ofNat sm)), .val (.int (Int32.ofNat bg)), .val (.int (-1 : Int32)), .val (.int (0 : Int32))] [(.int (Int32.ofNat (own_g Sz sm))), (.int (Int32.ofNat (own_g Sz bg))), (.int (Int32.ofNat bg)), (.ref az)])) tz := by
              intro tz kz
              refine XS.iadd X84.here hx rfl (hb hby d7_153) rfl ?_
              exact kz
            refine OG.step s87 ?_
            rw [own_add]
            show OG _ _ _ _ _ _ _ (T84.setTop (mkF m 154 #[.val (.ref a1), .val (.int (Int32.ofNat aa)), .val (.int (Int32.ofNat bb)), .val (.int (Int32.ofNat (own_rt Pa 4 aa))), .val (.int (Int32.ofNat (own_rt (own_fc Pa aa) 4 bb))), .val (.int (Int32.ofNat sm)), .val (.int (Int32.ofNat bg)), .val (.int (-1 : Int32)), .val (.int (0 : Int32))] [(.int (Int32.ofNat (own_g Sz bg + own_g Sz sm))), (.int (Int32.ofNat bg)), (.ref az)]))
            have av88 := f75
            obtain ⟨cl88, Ar88, qa_88, Sa_88, Nn_88, Ha_88, Ga_88⟩ := av88
            have hin88 : ¬ ((Int32.ofNat bg) < 0 ∨ cl88.slots.size ≤ ((Int32.ofNat bg)).toNatClampNeg) := inb_of Sa_88 ⟨(own_x4 hb4).1, (own_x4 hb4).2.1⟩
            obtain ⟨T89, h89, X89, e89, W89, st89⟩ := stI X84 hx hZ e84 Ar88 (j := (Int32.ofNat bg)) hin88 (g := (mkF m 154 #[.val (.ref a1), .val (.int (Int32.ofNat aa)), .val (.int (Int32.ofNat bb)), .val (.int (Int32.ofNat (own_rt Pa 4 aa))), .val (.int (Int32.ofNat (own_rt (own_fc Pa aa) 4 bb))), .val (.int (Int32.ofNat sm)), .val (.int (Int32.ofNat bg)), .val (.int (-1 : Int32)), .val (.int (0 : Int32))] [(.int (Int32.ofNat (own_g Sz bg + own_g Sz sm))), (.int (Int32.ofNat bg)), (.ref az)])) rfl rfl (hb hby d7_154)
            refine OG.step st89 ?_
            have Va89 := Arv.set Ar88 qa_88 Sa_88 Nn_88 Ha_88 Ga_88 rfl W89 (bg) (own_x4 hb4).2.2 (own_len hjk.2.2.2.1.1 hb4)
            have Va89 : Arv Z h89 az kz .int (4 : Int32) ((own_vl Sz).set bg (.int (Int32.ofNat (own_g Sz bg + own_g Sz sm)))) (.int (0 : Int32)) := Va89
            have V89 : Arv Z h89 az kz .int (4 : Int32) (own_vl (Sz.set bg (own_g Sz bg + own_g Sz sm))) (.int (0 : Int32)) := by rw [own_set Sz bg (own_g Sz bg + own_g Sz sm)] at Va89; exact Va89
            have f90 := f66.wr W89
            have f91 := f67.other W89 (Or.inl ne_a1_az)
            have f92 := f68.wr W89
            have f93 := f69.other W89 (Or.inl ne_gv_az)
            have f94 := f70.other W89 ne_gs_az
            have f95 := f71.other W89 (Or.inl ne_a1_az)
            have f96 := f72.other W89 (Or.inl ne_a1_az)
            have f97 := f73.other W89 (Or.inl ne_a1_az)
            have f98 := f74.other W89 (Or.inl ne_a1_az)
            have f99 := f76.other W89 (Ne.symm ne_az_an)
            have f100 := f77.other W89 (Ne.symm ne_az_al)
            have f101 := V65.other W89 ne_ap_az
            have K89 := K65.wr W89 (Or.inl (List.mem_of_getElem? (i := 1) rfl))
            have N89 := Fr.snoc X89 N65 g_az
            obtain ⟨Lz102, X89, N89⟩ : ∃ Lz, Stand p l e rom_7 s m #[(.ref a1), (.int (Int32.ofNat aa)), (.int (Int32.ofNat bb))] below meth c T89 Lz 0 0 ∧ Fr n0 Lz := ⟨_, X89, N89⟩
            show OG _ _ _ _ _ _ _ (T89.setTop (mkF m 155 #[.val (.ref a1), .val (.int (Int32.ofNat aa)), .val (.int (Int32.ofNat bb)), .val (.int (Int32.ofNat (own_rt Pa 4 aa))), .val (.int (Int32.ofNat (own_rt (own_fc Pa aa) 4 bb))), .val (.int (Int32.ofNat sm)), .val (.int (Int32.ofNat bg)), .val (.int (-1 : Int32)), .val (.int (0 : Int32))] []))
            have s103 : ∀ tz, Steps p.tables e below (T89.setTop (mkF m 156 #[.val (.ref a1), .val (.int (Int32.ofNat aa)), .val (.int (Int32.ofNat bb)), .val (.int (Int32.ofNat (own_rt Pa 4 aa))), .val (.int (Int32.ofNat (own_rt (own_fc Pa aa) 4 bb))), .val (.int (Int32.ofNat sm)), .val (.int (Int32.ofNat bg)), .val (.int (-1 : Int32)), .val (.int (0 : Int32))] [(.ref a1)])) tz → Steps p.tables e below (T89.setTop (mkF m 155 #[.val (.ref a1), .val (.int (Int32.ofNat aa)), .val (.int (Int32.ofNat bb)), .val (.int (Int32.ofNat (own_rt Pa 4 aa))), .val (.int (Int32.ofNat (own_rt (own_fc Pa aa) 4 bb))), .val (.int (Int32.ofNat sm)), .val (.int (Int32.ofNat bg)), .val (.int (-1 : Int32)), .val (.int (0 : Int32))] [])) tz := by
              intro tz kz
              refine XS.aloadN X89.here hx rfl (hb hby d7_155) rfl rfl ?_
              exact kz
            refine OG.step s103 ?_
            obtain ⟨T104, X104, e104, st104⟩ := getF X89 hx hZ hown (host := "") (Or.inl (hw _ (List.mem_of_getElem? (i := 52) rfl))) Via.refl e89 f97 (g := (mkF m 156 #[.val (.ref a1), .val (.int (Int32.ofNat aa)), .val (.int (Int32.ofNat bb)), .val (.int (Int32.ofNat (own_rt Pa 4 aa))), .val (.int (Int32.ofNat (own_rt (own_fc Pa aa) 4 bb))), .val (.int (Int32.ofNat sm)), .val (.int (Int32.ofNat bg)), .val (.int (-1 : Int32)), .val (.int (0 : Int32))] [(.ref a1)])) rfl rfl (hb hby d7_156)
            refine OG.step st104 ?_
            show OG _ _ _ _ _ _ _ (T104.setTop (mkF m 159 #[.val (.ref a1), .val (.int (Int32.ofNat aa)), .val (.int (Int32.ofNat bb)), .val (.int (Int32.ofNat (own_rt Pa 4 aa))), .val (.int (Int32.ofNat (own_rt (own_fc Pa aa) 4 bb))), .val (.int (Int32.ofNat sm)), .val (.int (Int32.ofNat bg)), .val (.int (-1 : Int32)), .val (.int (0 : Int32))] [(.ref an)]))
            have s105 : ∀ tz, Steps p.tables e below (T104.setTop (mkF m 160 #[.val (.ref a1), .val (.int (Int32.ofNat aa)), .val (.int (Int32.ofNat bb)), .val (.int (Int32.ofNat (own_rt Pa 4 aa))), .val (.int (Int32.ofNat (own_rt (own_fc Pa aa) 4 bb))), .val (.int (Int32.ofNat sm)), .val (.int (Int32.ofNat bg)), .val (.int (-1 : Int32)), .val (.int (0 : Int32))] [(.ref a1), (.ref an)])) tz → Steps p.tables e below (T104.setTop (mkF m 159 #[.val (.ref a1), .val (.int (Int32.ofNat aa)), .val (.int (Int32.ofNat bb)), .val (.int (Int32.ofNat (own_rt Pa 4 aa))), .val (.int (Int32.ofNat (own_rt (own_fc Pa aa) 4 bb))), .val (.int (Int32.ofNat sm)), .val (.int (Int32.ofNat bg)), .val (.int (-1 : Int32)), .val (.int (0 : Int32))] [(.ref an)])) tz := by
              intro tz kz
              refine XS.aloadN X104.here hx rfl (hb hby d7_159) rfl rfl ?_
              exact kz
            refine OG.step s105 ?_
            obtain ⟨T106, X106, e106, st106⟩ := getF X104 hx hZ hown (host := "") (Or.inl (hw _ (List.mem_of_getElem? (i := 54) rfl))) Via.refl e104 f98 (g := (mkF m 160 #[.val (.ref a1), .val (.int (Int32.ofNat aa)), .val (.int (Int32.ofNat bb)), .val (.int (Int32.ofNat (own_rt Pa 4 aa))), .val (.int (Int32.ofNat (own_rt (own_fc Pa aa) 4 bb))), .val (.int (Int32.ofNat sm)), .val (.int (Int32.ofNat bg)), .val (.int (-1 : Int32)), .val (.int (0 : Int32))] [(.ref a1), (.ref an)])) rfl rfl (hb hby d7_160)
            refine OG.step st106 ?_
            show OG _ _ _ _ _ _ _ (T106.setTop (mkF m 163 #[.val (.ref a1), .val (.int (Int32.ofNat aa)), .val (.int (Int32.ofNat bb)), .val (.int (Int32.ofNat (own_rt Pa 4 aa))), .val (.int (Int32.ofNat (own_rt (own_fc Pa aa) 4 bb))), .val (.int (Int32.ofNat sm)), .val (.int (Int32.ofNat bg)), .val (.int (-1 : Int32)), .val (.int (0 : Int32))] [(.ref al), (.ref an)]))
            have s107 : ∀ tz, Steps p.tables e below (T106.setTop (mkF m 165 #[.val (.ref a1), .val (.int (Int32.ofNat aa)), .val (.int (Int32.ofNat bb)), .val (.int (Int32.ofNat (own_rt Pa 4 aa))), .val (.int (Int32.ofNat (own_rt (own_fc Pa aa) 4 bb))), .val (.int (Int32.ofNat sm)), .val (.int (Int32.ofNat bg)), .val (.int (-1 : Int32)), .val (.int (0 : Int32))] [(.int (Int32.ofNat bg)), (.ref al), (.ref an)])) tz → Steps p.tables e below (T106.setTop (mkF m 163 #[.val (.ref a1), .val (.int (Int32.ofNat aa)), .val (.int (Int32.ofNat bb)), .val (.int (Int32.ofNat (own_rt Pa 4 aa))), .val (.int (Int32.ofNat (own_rt (own_fc Pa aa) 4 bb))), .val (.int (Int32.ofNat sm)), .val (.int (Int32.ofNat bg)), .val (.int (-1 : Int32)), .val (.int (0 : Int32))] [(.ref al), (.ref an)])) tz := by
              intro tz kz
              refine XS.iload X106.here hx rfl (hb hby d7_163) rfl ?_
              exact kz
            refine OG.step s107 ?_
            have av108 := f100
            obtain ⟨cl108, Ar108, qa_108, Sa_108, Nn_108, Ha_108, Ga_108⟩ := av108
            have hin108 : ¬ ((Int32.ofNat bg) < 0 ∨ cl108.slots.size ≤ ((Int32.ofNat bg)).toNatClampNeg) := inb_of Sa_108 ⟨(own_x4 hb4).1, (own_x4 hb4).2.1⟩
            have hat108 : cl108.slots[((Int32.ofNat bg)).toNatClampNeg]? = some (.int (Int32.ofNat (own_g La bg))) := Ha_108.at hin108 (own_get hjk.2.2.2.2.2.1.1 hb4)
            refine OG.step (X106.iaload hx (j := (Int32.ofNat bg)) (v := (.int (Int32.ofNat (own_g La bg)))) (by rw [e106]; exact Ar108.1) (State.isArrayOf_alike hZ.alike Ar108.2.1) Ar108.2.2 hin108 hat108 (g := (mkF m 165 #[.val (.ref a1), .val (.int (Int32.ofNat aa)), .val (.int (Int32.ofNat bb)), .val (.int (Int32.ofNat (own_rt Pa 4 aa))), .val (.int (Int32.ofNat (own_rt (own_fc Pa aa) 4 bb))), .val (.int (Int32.ofNat sm)), .val (.int (Int32.ofNat bg)), .val (.int (-1 : Int32)), .val (.int (0 : Int32))] [(.int (Int32.ofNat bg)), (.ref al), (.ref an)])) rfl rfl (hb hby d7_165)) ?_
            show OG _ _ _ _ _ _ _ (T106.setTop (mkF m 166 #[.val (.ref a1), .val (.int (Int32.ofNat aa)), .val (.int (Int32.ofNat bb)), .val (.int (Int32.ofNat (own_rt Pa 4 aa))), .val (.int (Int32.ofNat (own_rt (own_fc Pa aa) 4 bb))), .val (.int (Int32.ofNat sm)), .val (.int (Int32.ofNat bg)), .val (.int (-1 : Int32)), .val (.int (0 : Int32))] [(.int (Int32.ofNat (own_g La bg))), (.ref an)]))
            have s109 : ∀ tz, Steps p.tables e below (T106.setTop (mkF m 168 #[.val (.ref a1), .val (.int (Int32.ofNat aa)), .val (.int (Int32.ofNat bb)), .val (.int (Int32.ofNat (own_rt Pa 4 aa))), .val (.int (Int32.ofNat (own_rt (own_fc Pa aa) 4 bb))), .val (.int (Int32.ofNat sm)), .val (.int (Int32.ofNat bg)), .val (.int (-1 : Int32)), .val (.int (0 : Int32))] [(.int (Int32.ofNat sm)), (.int (Int32.ofNat (own_g La bg))), (.ref an)])) tz → Steps p.tables e below (T106.setTop (mkF m 166 #[.val (.ref a1), .val (.int (Int32.ofNat aa)), .val (.int (Int32.ofNat bb)), .val (.int (Int32.ofNat (own_rt Pa 4 aa))), .val (.int (Int32.ofNat (own_rt (own_fc Pa aa) 4 bb))), .val (.int (Int32.ofNat sm)), .val (.int (Int32.ofNat bg)), .val (.int (-1 : Int32)), .val (.int (0 : Int32))] [(.int (Int32.ofNat (own_g La bg))), (.ref an)])) tz := by
              intro tz kz
              refine XS.iload X106.here hx rfl (hb hby d7_166) rfl ?_
              exact kz
            refine OG.step s109 ?_
            have av110 := f99
            obtain ⟨cl110, Ar110, qa_110, Sa_110, Nn_110, Ha_110, Ga_110⟩ := av110
            have hin110 : ¬ ((Int32.ofNat (own_g La bg)) < 0 ∨ cl110.slots.size ≤ ((Int32.ofNat (own_g La bg))).toNatClampNeg) := inb_of Sa_110 ⟨(own_x4 (hjk.2.2.2.2.2.1.2 bg hb4)).1, (own_x4 (hjk.2.2.2.2.2.1.2 bg hb4)).2.1⟩
            obtain ⟨T111, h111, X111, e111, W111, st111⟩ := stI X106 hx hZ e106 Ar110 (j := (Int32.ofNat (own_g La bg))) hin110 (g := (mkF m 168 #[.val (.ref a1), .val (.int (Int32.ofNat aa)), .val (.int (Int32.ofNat bb)), .val (.int (Int32.ofNat (own_rt Pa 4 aa))), .val (.int (Int32.ofNat (own_rt (own_fc Pa aa) 4 bb))), .val (.int (Int32.ofNat sm)), .val (.int (Int32.ofNat bg)), .val (.int (-1 : Int32)), .val (.int (0 : Int32))] [(.int (Int32.ofNat sm)), (.int (Int32.ofNat (own_g La bg))), (.ref an)])) rfl rfl (hb hby d7_168)
            refine OG.step st111 ?_
            have Va111 := Arv.set Ar110 qa_110 Sa_110 Nn_110 Ha_110 Ga_110 rfl W111 ((own_g La bg)) (own_x4 (hjk.2.2.2.2.2.1.2 bg hb4)).2.2 (own_lenn hjk.2.2.2.2.1.1 (hjk.2.2.2.2.2.1.2 bg hb4))
            have Va111 : Arv Z h111 an kn .int (4 : Int32) ((own_vn Nx).set (own_g La bg) (.int (own_nx (sm + 1)))) (.int (0 : Int32)) := Va111
            have V111 : Arv Z h111 an kn .int (4 : Int32) (own_vn (Nx.set (own_g La bg) (sm + 1))) (.int (0 : Int32)) := by rw [own_setn Nx (own_g La bg) (sm + 1)] at Va111; exact Va111
            have f112 := f90.wr W111
            have f113 := f91.other W111 (Or.inl ne_a1_an)
            have f114 := f92.wr W111
            have f115 := f93.other W111 (Or.inl ne_gv_an)
            have f116 := f94.other W111 ne_gs_an
            have f117 := f95.other W111 (Or.inl ne_a1_an)
            have f118 := f96.other W111 (Or.inl ne_a1_an)
            have f119 := f97.other W111 (Or.inl ne_a1_an)
            have f120 := f98.other W111 (Or.inl ne_a1_an)
            have f121 := f100.other W111 (Ne.symm ne_an_al)
            have f122 := f101.other W111 ne_ap_an
            have f123 := V89.other W111 ne_az_an
            have K111 := K89.wr W111 (Or.inl (List.mem_of_getElem? (i := 2) rfl))
            have N111 := Fr.snoc X111 N89 g_an
            obtain ⟨Lz124, X111, N111⟩ : ∃ Lz, Stand p l e rom_7 s m #[(.ref a1), (.int (Int32.ofNat aa)), (.int (Int32.ofNat bb))] below meth c T111 Lz 0 0 ∧ Fr n0 Lz := ⟨_, X111, N111⟩
            show OG _ _ _ _ _ _ _ (T111.setTop (mkF m 169 #[.val (.ref a1), .val (.int (Int32.ofNat aa)), .val (.int (Int32.ofNat bb)), .val (.int (Int32.ofNat (own_rt Pa 4 aa))), .val (.int (Int32.ofNat (own_rt (own_fc Pa aa) 4 bb))), .val (.int (Int32.ofNat sm)), .val (.int (Int32.ofNat bg)), .val (.int (-1 : Int32)), .val (.int (0 : Int32))] []))
            have s125 : ∀ tz, Steps p.tables e below (T111.setTop (mkF m 170 #[.val (.ref a1), .val (.int (Int32.ofNat aa)), .val (.int (Int32.ofNat bb)), .val (.int (Int32.ofNat (own_rt Pa 4 aa))), .val (.int (Int32.ofNat (own_rt (own_fc Pa aa) 4 bb))), .val (.int (Int32.ofNat sm)), .val (.int (Int32.ofNat bg)), .val (.int (-1 : Int32)), .val (.int (0 : Int32))] [(.ref a1)])) tz → Steps p.tables e below (T111.setTop (mkF m 169 #[.val (.ref a1), .val (.int (Int32.ofNat aa)), .val (.int (Int32.ofNat bb)), .val (.int (Int32.ofNat (own_rt Pa 4 aa))), .val (.int (Int32.ofNat (own_rt (own_fc Pa aa) 4 bb))), .val (.int (Int32.ofNat sm)), .val (.int (Int32.ofNat bg)), .val (.int (-1 : Int32)), .val (.int (0 : Int32))] [])) tz := by
              intro tz kz
              refine XS.aloadN X111.here hx rfl (hb hby d7_169) rfl rfl ?_
              exact kz
            refine OG.step s125 ?_
            obtain ⟨T126, X126, e126, st126⟩ := getF X111 hx hZ hown (host := "") (Or.inl (hw _ (List.mem_of_getElem? (i := 54) rfl))) Via.refl e111 f120 (g := (mkF m 170 #[.val (.ref a1), .val (.int (Int32.ofNat aa)), .val (.int (Int32.ofNat bb)), .val (.int (Int32.ofNat (own_rt Pa 4 aa))), .val (.int (Int32.ofNat (own_rt (own_fc Pa aa) 4 bb))), .val (.int (Int32.ofNat sm)), .val (.int (Int32.ofNat bg)), .val (.int (-1 : Int32)), .val (.int (0 : Int32))] [(.ref a1)])) rfl rfl (hb hby d7_170)
            refine OG.step st126 ?_
            show OG _ _ _ _ _ _ _ (T126.setTop (mkF m 173 #[.val (.ref a1), .val (.int (Int32.ofNat aa)), .val (.int (Int32.ofNat bb)), .val (.int (Int32.ofNat (own_rt Pa 4 aa))), .val (.int (Int32.ofNat (own_rt (own_fc Pa aa) 4 bb))), .val (.int (Int32.ofNat sm)), .val (.int (Int32.ofNat bg)), .val (.int (-1 : Int32)), .val (.int (0 : Int32))] [(.ref al)]))
            have s127 : ∀ tz, Steps p.tables e below (T126.setTop (mkF m 176 #[.val (.ref a1), .val (.int (Int32.ofNat aa)), .val (.int (Int32.ofNat bb)), .val (.int (Int32.ofNat (own_rt Pa 4 aa))), .val (.int (Int32.ofNat (own_rt (own_fc Pa aa) 4 bb))), .val (.int (Int32.ofNat sm)), .val (.int (Int32.ofNat bg)), .val (.int (-1 : Int32)), .val (.int (0 : Int32))] [(.ref a1), (.int (Int32.ofNat bg)), (.ref al)])) tz → Steps p.tables e below (T126.setTop (mkF m 173 #[.val (.ref a1), .val (.int (Int32.ofNat aa)), .val (.int (Int32.ofNat bb)), .val (.int (Int32.ofNat (own_rt Pa 4 aa))), .val (.int (Int32.ofNat (own_rt (own_fc Pa aa) 4 bb))), .val (.int (Int32.ofNat sm)), .val (.int (Int32.ofNat bg)), .val (.int (-1 : Int32)), .val (.int (0 : Int32))] [(.ref al)])) tz := by
              intro tz kz
              refine XS.iload X126.here hx rfl (hb hby d7_173) rfl ?_
              refine XS.aloadN X126.here hx rfl (hb hby d7_175) rfl rfl ?_
              exact kz
            refine OG.step s127 ?_
            obtain ⟨T128, X128, e128, st128⟩ := getF X126 hx hZ hown (host := "") (Or.inl (hw _ (List.mem_of_getElem? (i := 54) rfl))) Via.refl e126 f120 (g := (mkF m 176 #[.val (.ref a1), .val (.int (Int32.ofNat aa)), .val (.int (Int32.ofNat bb)), .val (.int (Int32.ofNat (own_rt Pa 4 aa))), .val (.int (Int32.ofNat (own_rt (own_fc Pa aa) 4 bb))), .val (.int (Int32.ofNat sm)), .val (.int (Int32.ofNat bg)), .val (.int (-1 : Int32)), .val (.int (0 : Int32))] [(.ref a1), (.int (Int32.ofNat bg)), (.ref al)])) rfl rfl (hb hby d7_176)
            refine OG.step st128 ?_
            show OG _ _ _ _ _ _ _ (T128.setTop (mkF m 179 #[.val (.ref a1), .val (.int (Int32.ofNat aa)), .val (.int (Int32.ofNat bb)), .val (.int (Int32.ofNat (own_rt Pa 4 aa))), .val (.int (Int32.ofNat (own_rt (own_fc Pa aa) 4 bb))), .val (.int (Int32.ofNat sm)), .val (.int (Int32.ofNat bg)), .val (.int (-1 : Int32)), .val (.int (0 : Int32))] [(.ref al), (.int (Int32.ofNat bg)), (.ref al)]))
            have s129 : ∀ tz, Steps p.tables e below (T128.setTop (mkF m 181 #[.val (.ref a1), .val (.int (Int32.ofNat aa)), .val (.int (Int32.ofNat bb)), .val (.int (Int32.ofNat (own_rt Pa 4 aa))), .val (.int (Int32.ofNat (own_rt (own_fc Pa aa) 4 bb))), .val (.int (Int32.ofNat sm)), .val (.int (Int32.ofNat bg)), .val (.int (-1 : Int32)), .val (.int (0 : Int32))] [(.int (Int32.ofNat sm)), (.ref al), (.int (Int32.ofNat bg)), (.ref al)])) tz → Steps p.tables e below (T128.setTop (mkF m 179 #[.val (.ref a1), .val (.int (Int32.ofNat aa)), .val (.int (Int32.ofNat bb)), .val (.int (Int32.ofNat (own_rt Pa 4 aa))), .val (.int (Int32.ofNat (own_rt (own_fc Pa aa) 4 bb))), .val (.int (Int32.ofNat sm)), .val (.int (Int32.ofNat bg)), .val (.int (-1 : Int32)), .val (.int (0 : Int32))] [(.ref al), (.int (Int32.ofNat bg)), (.ref al)])) tz := by
              intro tz kz
              refine XS.iload X128.here hx rfl (hb hby d7_179) rfl ?_
              exact kz
            refine OG.step s129 ?_
            have av130 := f121
            obtain ⟨cl130, Ar130, qa_130, Sa_130, Nn_130, Ha_130, Ga_130⟩ := av130
            have hin130 : ¬ ((Int32.ofNat sm) < 0 ∨ cl130.slots.size ≤ ((Int32.ofNat sm)).toNatClampNeg) := inb_of Sa_130 ⟨(own_x4 hs4).1, (own_x4 hs4).2.1⟩
            have hat130 : cl130.slots[((Int32.ofNat sm)).toNatClampNeg]? = some (.int (Int32.ofNat (own_g La sm))) := Ha_130.at hin130 (own_get hjk.2.2.2.2.2.1.1 hs4)
            refine OG.step (X128.iaload hx (j := (Int32.ofNat sm)) (v := (.int (Int32.ofNat (own_g La sm)))) (by rw [e128]; exact Ar130.1) (State.isArrayOf_alike hZ.alike Ar130.2.1) Ar130.2.2 hin130 hat130 (g := (mkF m 181 #[.val (.ref a1), .val (.int (Int32.ofNat aa)), .val (.int (Int32.ofNat bb)), .val (.int (Int32.ofNat (own_rt Pa 4 aa))), .val (.int (Int32.ofNat (own_rt (own_fc Pa aa) 4 bb))), .val (.int (Int32.ofNat sm)), .val (.int (Int32.ofNat bg)), .val (.int (-1 : Int32)), .val (.int (0 : Int32))] [(.int (Int32.ofNat sm)), (.ref al), (.int (Int32.ofNat bg)), (.ref al)])) rfl rfl (hb hby d7_181)) ?_
            show OG _ _ _ _ _ _ _ (T128.setTop (mkF m 182 #[.val (.ref a1), .val (.int (Int32.ofNat aa)), .val (.int (Int32.ofNat bb)), .val (.int (Int32.ofNat (own_rt Pa 4 aa))), .val (.int (Int32.ofNat (own_rt (own_fc Pa aa) 4 bb))), .val (.int (Int32.ofNat sm)), .val (.int (Int32.ofNat bg)), .val (.int (-1 : Int32)), .val (.int (0 : Int32))] [(.int (Int32.ofNat (own_g La sm))), (.int (Int32.ofNat bg)), (.ref al)]))
            have av131 := f121
            obtain ⟨cl131, Ar131, qa_131, Sa_131, Nn_131, Ha_131, Ga_131⟩ := av131
            have hin131 : ¬ ((Int32.ofNat bg) < 0 ∨ cl131.slots.size ≤ ((Int32.ofNat bg)).toNatClampNeg) := inb_of Sa_131 ⟨(own_x4 hb4).1, (own_x4 hb4).2.1⟩
            obtain ⟨T132, h132, X132, e132, W132, st132⟩ := stI X128 hx hZ e128 Ar131 (j := (Int32.ofNat bg)) hin131 (g := (mkF m 182 #[.val (.ref a1), .val (.int (Int32.ofNat aa)), .val (.int (Int32.ofNat bb)), .val (.int (Int32.ofNat (own_rt Pa 4 aa))), .val (.int (Int32.ofNat (own_rt (own_fc Pa aa) 4 bb))), .val (.int (Int32.ofNat sm)), .val (.int (Int32.ofNat bg)), .val (.int (-1 : Int32)), .val (.int (0 : Int32))] [(.int (Int32.ofNat (own_g La sm))), (.int (Int32.ofNat bg)), (.ref al)])) rfl rfl (hb hby d7_182)
            refine OG.step st132 ?_
            have Va132 := Arv.set Ar131 qa_131 Sa_131 Nn_131 Ha_131 Ga_131 rfl W132 (bg) (own_x4 hb4).2.2 (own_len hjk.2.2.2.2.2.1.1 hb4)
            have Va132 : Arv Z h132 al kl .int (4 : Int32) ((own_vl La).set bg (.int (Int32.ofNat (own_g La sm)))) (.int (0 : Int32)) := Va132
            have V132 : Arv Z h132 al kl .int (4 : Int32) (own_vl (La.set bg (own_g La sm))) (.int (0 : Int32)) := by rw [own_set La bg (own_g La sm)] at Va132; exact Va132
            have f133 := f112.wr W132
            have f134 := f113.other W132 (Or.inl ne_a1_al)
            have f135 := f114.wr W132
            have f136 := f115.other W132 (Or.inl ne_gv_al)
            have f137 := f116.other W132 ne_gs_al
            have f138 := f117.other W132 (Or.inl ne_a1_al)
            have f139 := f118.other W132 (Or.inl ne_a1_al)
            have f140 := f119.other W132 (Or.inl ne_a1_al)
            have f141 := f120.other W132 (Or.inl ne_a1_al)
            have f142 := f122.other W132 ne_ap_al
            have f143 := f123.other W132 ne_az_al
            have f144 := V111.other W132 ne_an_al
            have K132 := K111.wr W132 (Or.inl (List.mem_of_getElem? (i := 3) rfl))
            have N132 := Fr.snoc X132 N111 g_al
            obtain ⟨Lz145, X132, N132⟩ : ∃ Lz, Stand p l e rom_7 s m #[(.ref a1), (.int (Int32.ofNat aa)), (.int (Int32.ofNat bb))] below meth c T132 Lz 0 0 ∧ Fr n0 Lz := ⟨_, X132, N132⟩
            show OG _ _ _ _ _ _ _ (T132.setTop (mkF m 183 #[.val (.ref a1), .val (.int (Int32.ofNat aa)), .val (.int (Int32.ofNat bb)), .val (.int (Int32.ofNat (own_rt Pa 4 aa))), .val (.int (Int32.ofNat (own_rt (own_fc Pa aa) 4 bb))), .val (.int (Int32.ofNat sm)), .val (.int (Int32.ofNat bg)), .val (.int (-1 : Int32)), .val (.int (0 : Int32))] []))
            exact OG.retV X132 hx hlk Bd.returns (hb hby d7_183) e132 ⟨((own_fc (own_fc Pa aa) bb).set sm bg), (Sz.set bg (own_g Sz bg + own_g Sz sm)), (Nx.set (own_g La bg) (sm + 1)), (La.set bg (own_g La sm)), rfl, N132, K132, f142, f143, f144, V132, (own_jn_diff (fun z => hc16 (congrArg Int32.ofNat z)) hsm hbg)⟩ (by decide) (by decide)
          | succ c0 =>
            obtain ⟨f', hf', hw'⟩ := own_wk_step hwk
            have hc04 : c0 < 4 := by omega
            show OG _ _ _ _ _ _ _ (Tj60.setTop (mkF m 62 #[.val (.ref a1), .val (.int (Int32.ofNat aa)), .val (.int (Int32.ofNat bb)), .val (.int (Int32.ofNat (own_rt Pa 4 aa))), .val (.int (Int32.ofNat (own_rt (own_fc Pa aa) 4 bb))), .val (.int (Int32.ofNat sm)), .val (.int (Int32.ofNat bg)), .val (.int (Int32.ofNat c0)), .val (.int (0 : Int32))] []))
            have s146 : ∀ tz, Steps p.tables e below (Tj60.setTop (mkF m 68 #[.val (.ref a1), .val (.int (Int32.ofNat aa)), .val (.int (Int32.ofNat bb)), .val (.int (Int32.ofNat (own_rt Pa 4 aa))), .val (.int (Int32.ofNat (own_rt (own_fc Pa aa) 4 bb))), .val (.int (Int32.ofNat sm)), .val (.int (Int32.ofNat bg)), .val (.int (Int32.ofNat c0)), .val (.int (0 : Int32))] [(.ref a1)])) tz → Steps p.tables e below (Tj60.setTop (mkF m 62 #[.val (.ref a1), .val (.int (Int32.ofNat aa)), .val (.int (Int32.ofNat bb)), .val (.int (Int32.ofNat (own_rt Pa 4 aa))), .val (.int (Int32.ofNat (own_rt (own_fc Pa aa) 4 bb))), .val (.int (Int32.ofNat sm)), .val (.int (Int32.ofNat bg)), .val (.int (Int32.ofNat c0)), .val (.int (0 : Int32))] [])) tz := by
              intro tz kz
              refine XS.iload Xj60.here hx rfl (hb hby d7_62) rfl ?_
              refine XS.ifNo Xj60.here hx rfl (hb hby d7_64) rfl ((if0 _ _).trans (flt (own_x4 hc04).1).1) ?_
              refine XS.aloadN Xj60.here hx rfl (hb hby d7_67) rfl rfl ?_
              exact kz
            refine OG.step s146 ?_
            obtain ⟨T147, X147, e147, st147⟩ := getF Xj60 hx hZ hown (host := "") (Or.inl (hw _ (List.mem_of_getElem? (i := 46) rfl))) Via.refl ej60 f20 (g := (mkF m 68 #[.val (.ref a1), .val (.int (Int32.ofNat aa)), .val (.int (Int32.ofNat bb)), .val (.int (Int32.ofNat (own_rt Pa 4 aa))), .val (.int (Int32.ofNat (own_rt (own_fc Pa aa) 4 bb))), .val (.int (Int32.ofNat sm)), .val (.int (Int32.ofNat bg)), .val (.int (Int32.ofNat c0)), .val (.int (0 : Int32))] [(.ref a1)])) rfl rfl (hb hby d7_68)
            refine OG.step st147 ?_
            show OG _ _ _ _ _ _ _ (T147.setTop (mkF m 71 #[.val (.ref a1), .val (.int (Int32.ofNat aa)), .val (.int (Int32.ofNat bb)), .val (.int (Int32.ofNat (own_rt Pa 4 aa))), .val (.int (Int32.ofNat (own_rt (own_fc Pa aa) 4 bb))), .val (.int (Int32.ofNat sm)), .val (.int (Int32.ofNat bg)), .val (.int (Int32.ofNat c0)), .val (.int (0 : Int32))] [(.ref gv)]))
            have s148 : ∀ tz, Steps p.tables e below (T147.setTop (mkF m 73 #[.val (.ref a1), .val (.int (Int32.ofNat aa)), .val (.int (Int32.ofNat bb)), .val (.int (Int32.ofNat (own_rt Pa 4 aa))), .val (.int (Int32.ofNat (own_rt (own_fc Pa aa) 4 bb))), .val (.int (Int32.ofNat sm)), .val (.int (Int32.ofNat bg)), .val (.int (Int32.ofNat c0)), .val (.int (0 : Int32))] [(.int (Int32.ofNat c0)), (.ref gv)])) tz → Steps p.tables e below (T147.setTop (mkF m 71 #[.val (.ref a1), .val (.int (Int32.ofNat aa)), .val (.int (Int32.ofNat bb)), .val (.int (Int32.ofNat (own_rt Pa 4 aa))), .val (.int (Int32.ofNat (own_rt (own_fc Pa aa) 4 bb))), .val (.int (Int32.ofNat sm)), .val (.int (Int32.ofNat bg)), .val (.int (Int32.ofNat c0)), .val (.int (0 : Int32))] [(.ref gv)])) tz := by
              intro tz kz
              refine XS.iload X147.here hx rfl (hb hby d7_71) rfl ?_
              exact kz
            refine OG.step s148 ?_
            obtain ⟨cq149, kq149, q149a, q149b, q149c⟩ := isOf hZ e147 f21
            obtain ⟨_, _, ⟨T149, L149, k149, n149⟩, -, X149, ⟨Lc149, hQ149, l149, y149, z149⟩, st149⟩ := X147.virtualBack hx (y := (⟨"com/example/tidegraph/tidegraph/amd64/InterferenceGraph", "first", "(I)I"⟩ : MethodName)) (z := (⟨"com/example/tidegraph/tidegraph/amd64/InterferenceGraph", "first", "(I)I"⟩ : MethodName)) hown (mvT hZ (hw _ (List.mem_of_getElem? (i := 70) rfl))) (mvT hZ (hw _ (List.mem_of_getElem? (i := 71) rfl))) (notFace_of_selects (args := #[]) (mvT hZ (hw _ (List.mem_of_getElem? (i := 73) rfl)))) (mvT hZ (hw _ (List.mem_of_getElem? (i := 73) rfl))) (mvT hZ (hw _ (List.mem_of_getElem? (i := 72) rfl))) (by decide) (backOf (W := 0) (rm10 l Z a0 hw [] gv c0 gs ks T18.heap n0 (Nat.le_trans Z0 K18.1) f22 f23 hc04) hZ (hw _ (List.mem_of_getElem? (i := 74) rfl)) (hw _ (List.mem_of_getElem? (i := 2) rfl)) (by decide) (by decide)) q149a q149c (g := (mkF m 73 #[.val (.ref a1), .val (.int (Int32.ofNat aa)), .val (.int (Int32.ofNat bb)), .val (.int (Int32.ofNat (own_rt Pa 4 aa))), .val (.int (Int32.ofNat (own_rt (own_fc Pa aa) 4 bb))), .val (.int (Int32.ofNat sm)), .val (.int (Int32.ofNat bg)), .val (.int (Int32.ofNat c0)), .val (.int (0 : Int32))] [(.int (Int32.ofNat c0)), (.ref gv)])) rfl (by rw [hml]; rfl) (Steps.refl _) (argsL := [(.int (Int32.ofNat c0))]) (rest := []) (lenOf pd__I_I rfl) rfl (by show 2 * 0 + _ ≤ _; exact Nat.le_of_eq rfl) (hb hby d7_73) (fun _ _ => ⟨rfl, e147, (by decide : 0 + 0 ≤ _), (by decide : 0 + 0 ≤ _)⟩)
            dsimp only [Pt.U, Pt.locs, Pt.cells, Pt.slots] at X149 l149 y149 z149 st149 hQ149
            subst l149 y149 z149
            obtain ⟨rfl, N149q, e149⟩ := hQ149
            have N149 := Fr.app Nj60 N149q
            refine OG.step (fun tz kz => st149.trans kz) ?_
            obtain ⟨Lz150, X149, N149⟩ : ∃ Lz, Stand p l e rom_7 s m #[(.ref a1), (.int (Int32.ofNat aa)), (.int (Int32.ofNat bb))] below meth c T149 Lz 0 0 ∧ Fr n0 Lz := ⟨_, X149, N149⟩
            show OG _ _ _ _ _ _ _ (T149.setTop (mkF m 76 #[.val (.ref a1), .val (.int (Int32.ofNat aa)), .val (.int (Int32.ofNat bb)), .val (.int (Int32.ofNat (own_rt Pa 4 aa))), .val (.int (Int32.ofNat (own_rt (own_fc Pa aa) 4 bb))), .val (.int (Int32.ofNat sm)), .val (.int (Int32.ofNat bg)), .val (.int (Int32.ofNat c0)), .val (.int (0 : Int32))] [(.int (0 : Int32))]))
            have s151 : ∀ tz, Steps p.tables e below (T149.setTop (mkF m 81 #[.val (.ref a1), .val (.int (Int32.ofNat aa)), .val (.int (Int32.ofNat bb)), .val (.int (Int32.ofNat (own_rt Pa 4 aa))), .val (.int (Int32.ofNat (own_rt (own_fc Pa aa) 4 bb))), .val (.int (Int32.ofNat sm)), .val (.int (Int32.ofNat bg)), .val (.int (Int32.ofNat c0)), .val (.int (0 : Int32))] [(.ref a1), (.int (0 : Int32))])) tz → Steps p.tables e below (T149.setTop (mkF m 76 #[.val (.ref a1), .val (.int (Int32.ofNat aa)), .val (.int (Int32.ofNat bb)), .val (.int (Int32.ofNat (own_rt Pa 4 aa))), .val (.int (Int32.ofNat (own_rt (own_fc Pa aa) 4 bb))), .val (.int (Int32.ofNat sm)), .val (.int (Int32.ofNat bg)), .val (.int (Int32.ofNat c0)), .val (.int (0 : Int32))] [(.int (0 : Int32))])) tz := by
              intro tz kz
              refine XS.istore X149.here hx rfl (hb hby d7_76) rfl (l' := #[.val (.ref a1), .val (.int (Int32.ofNat aa)), .val (.int (Int32.ofNat bb)), .val (.int (Int32.ofNat (own_rt Pa 4 aa))), .val (.int (Int32.ofNat (own_rt (own_fc Pa aa) 4 bb))), .val (.int (Int32.ofNat sm)), .val (.int (Int32.ofNat bg)), .val (.int (Int32.ofNat c0)), .val (.int (0 : Int32))]) rfl ?_
              refine XS.iload X149.here hx rfl (hb hby d7_78) rfl ?_
              refine XS.aloadN X149.here hx rfl (hb hby d7_80) rfl rfl ?_
              exact kz
            refine OG.step s151 ?_
            obtain ⟨T152, X152, e152, st152⟩ := getF X149 hx hZ hown (host := "") (Or.inl (hw _ (List.mem_of_getElem? (i := 46) rfl))) Via.refl e149 f20 (g := (mkF m 81 #[.val (.ref a1), .val (.int (Int32.ofNat aa)), .val (.int (Int32.ofNat bb)), .val (.int (Int32.ofNat (own_rt Pa 4 aa))), .val (.int (Int32.ofNat (own_rt (own_fc Pa aa) 4 bb))), .val (.int (Int32.ofNat sm)), .val (.int (Int32.ofNat bg)), .val (.int (Int32.ofNat c0)), .val (.int (0 : Int32))] [(.ref a1), (.int (0 : Int32))])) rfl rfl (hb hby d7_81)
            refine OG.step st152 ?_
            show OG _ _ _ _ _ _ _ (T152.setTop (mkF m 84 #[.val (.ref a1), .val (.int (Int32.ofNat aa)), .val (.int (Int32.ofNat bb)), .val (.int (Int32.ofNat (own_rt Pa 4 aa))), .val (.int (Int32.ofNat (own_rt (own_fc Pa aa) 4 bb))), .val (.int (Int32.ofNat sm)), .val (.int (Int32.ofNat bg)), .val (.int (Int32.ofNat c0)), .val (.int (0 : Int32))] [(.ref gv), (.int (0 : Int32))]))
            have s153 : ∀ tz, Steps p.tables e below (T152.setTop (mkF m 86 #[.val (.ref a1), .val (.int (Int32.ofNat aa)), .val (.int (Int32.ofNat bb)), .val (.int (Int32.ofNat (own_rt Pa 4 aa))), .val (.int (Int32.ofNat (own_rt (own_fc Pa aa) 4 bb))), .val (.int (Int32.ofNat sm)), .val (.int (Int32.ofNat bg)), .val (.int (Int32.ofNat c0)), .val (.int (0 : Int32))] [(.int (Int32.ofNat c0)), (.ref gv), (.int (0 : Int32))])) tz → Steps p.tables e below (T152.setTop (mkF m 84 #[.val (.ref a1), .val (.int (Int32.ofNat aa)), .val (.int (Int32.ofNat bb)), .val (.int (Int32.ofNat (own_rt Pa 4 aa))), .val (.int (Int32.ofNat (own_rt (own_fc Pa aa) 4 bb))), .val (.int (Int32.ofNat sm)), .val (.int (Int32.ofNat bg)), .val (.int (Int32.ofNat c0)), .val (.int (0 : Int32))] [(.ref gv), (.int (0 : Int32))])) tz := by
              intro tz kz
              refine XS.iload X152.here hx rfl (hb hby d7_84) rfl ?_
              exact kz
            refine OG.step s153 ?_
            obtain ⟨cq154, kq154, q154a, q154b, q154c⟩ := isOf hZ e152 f21
            obtain ⟨_, _, ⟨T154, L154, k154, n154⟩, -, X154, ⟨Lc154, hQ154, l154, y154, z154⟩, st154⟩ := X152.virtualBack hx (y := (⟨"com/example/tidegraph/tidegraph/amd64/InterferenceGraph", "end", "(I)I"⟩ : MethodName)) (z := (⟨"com/example/tidegraph/tidegraph/amd64/InterferenceGraph", "end", "(I)I"⟩ : MethodName)) hown (mvT hZ (hw _ (List.mem_of_getElem? (i := 75) rfl))) (mvT hZ (hw _ (List.mem_of_getElem? (i := 76) rfl))) (notFace_of_selects (args := #[]) (mvT hZ (hw _ (List.mem_of_getElem? (i := 78) rfl)))) (mvT hZ (hw _ (List.mem_of_getElem? (i := 78) rfl))) (mvT hZ (hw _ (List.mem_of_getElem? (i := 77) rfl))) (by decide) (backOf (W := 1) (rm11 l Z a0 hw [] gv c0 gs ks T18.heap n0 (Nat.le_trans Z0 K18.1) f22 f23 hc04) hZ (hw _ (List.mem_of_getElem? (i := 79) rfl)) (hw _ (List.mem_of_getElem? (i := 2) rfl)) (by decide) (by decide)) q154a q154c (g := (mkF m 86 #[.val (.ref a1), .val (.int (Int32.ofNat aa)), .val (.int (Int32.ofNat bb)), .val (.int (Int32.ofNat (own_rt Pa 4 aa))), .val (.int (Int32.ofNat (own_rt (own_fc Pa aa) 4 bb))), .val (.int (Int32.ofNat sm)), .val (.int (Int32.ofNat bg)), .val (.int (Int32.ofNat c0)), .val (.int (0 : Int32))] [(.int (Int32.ofNat c0)), (.ref gv), (.int (0 : Int32))])) rfl (by rw [hml]; rfl) (Steps.refl _) (argsL := [(.int (Int32.ofNat c0))]) (rest := [(.int (0 : Int32))]) (lenOf pd__I_I rfl) rfl (by show 2 * 0 + _ ≤ _; exact Nat.le_of_eq rfl) (hb hby d7_86) (fun _ _ => ⟨rfl, e152, (by decide : 0 + 0 ≤ _), (by decide : 0 + 0 ≤ _)⟩)
            dsimp only [Pt.U, Pt.locs, Pt.cells, Pt.slots] at X154 l154 y154 z154 st154 hQ154
            subst l154 y154 z154
            obtain ⟨rfl, N154q, e154⟩ := hQ154
            have N154 := Fr.app N149 N154q
            refine OG.step (fun tz kz => st154.trans kz) ?_
            obtain ⟨Lz155, X154, N154⟩ : ∃ Lz, Stand p l e rom_7 s m #[(.ref a1), (.int (Int32.ofNat aa)), (.int (Int32.ofNat bb))] below meth c T154 Lz 0 0 ∧ Fr n0 Lz := ⟨_, X154, N154⟩
            show OG _ _ _ _ _ _ _ (T154.setTop (mkF m 89 #[.val (.ref a1), .val (.int (Int32.ofNat aa)), .val (.int (Int32.ofNat bb)), .val (.int (Int32.ofNat (own_rt Pa 4 aa))), .val (.int (Int32.ofNat (own_rt (own_fc Pa aa) 4 bb))), .val (.int (Int32.ofNat sm)), .val (.int (Int32.ofNat bg)), .val (.int (Int32.ofNat c0)), .val (.int (0 : Int32))] [(.int (0 : Int32)), (.int (0 : Int32))]))
            have s156 : ∀ tz, Steps p.tables e below (T154.setTop (mkF m 118 #[.val (.ref a1), .val (.int (Int32.ofNat aa)), .val (.int (Int32.ofNat bb)), .val (.int (Int32.ofNat (own_rt Pa 4 aa))), .val (.int (Int32.ofNat (own_rt (own_fc Pa aa) 4 bb))), .val (.int (Int32.ofNat sm)), .val (.int (Int32.ofNat bg)), .val (.int (Int32.ofNat c0)), .val (.int (0 : Int32))] [(.ref a1)])) tz → Steps p.tables e below (T154.setTop (mkF m 89 #[.val (.ref a1), .val (.int (Int32.ofNat aa)), .val (.int (Int32.ofNat bb)), .val (.int (Int32.ofNat (own_rt Pa 4 aa))), .val (.int (Int32.ofNat (own_rt (own_fc Pa aa) 4 bb))), .val (.int (Int32.ofNat sm)), .val (.int (Int32.ofNat bg)), .val (.int (Int32.ofNat c0)), .val (.int (0 : Int32))] [(.int (0 : Int32)), (.int (0 : Int32))])) tz := by
              intro tz kz
              refine XS.icmpYes X154.here hx rfl (pc0 := 89) (pc' := 117) rfl (hb hby d7_89) rfl (flt (by decide)).2.1 (by decide) (by decide) ?_
              refine XS.aloadN X154.here hx rfl (hb hby d7_117) rfl rfl ?_
              exact kz
            refine OG.step s156 ?_
            obtain ⟨T157, X157, e157, st157⟩ := getF X154 hx hZ hown (host := "") (Or.inl (hw _ (List.mem_of_getElem? (i := 52) rfl))) Via.refl e154 f26 (g := (mkF m 118 #[.val (.ref a1), .val (.int (Int32.ofNat aa)), .val (.int (Int32.ofNat bb)), .val (.int (Int32.ofNat (own_rt Pa 4 aa))), .val (.int (Int32.ofNat (own_rt (own_fc Pa aa) 4 bb))), .val (.int (Int32.ofNat sm)), .val (.int (Int32.ofNat bg)), .val (.int (Int32.ofNat c0)), .val (.int (0 : Int32))] [(.ref a1)])) rfl rfl (hb hby d7_118)
            refine OG.step st157 ?_
            show OG _ _ _ _ _ _ _ (T157.setTop (mkF m 121 #[.val (.ref a1), .val (.int (Int32.ofNat aa)), .val (.int (Int32.ofNat bb)), .val (.int (Int32.ofNat (own_rt Pa 4 aa))), .val (.int (Int32.ofNat (own_rt (own_fc Pa aa) 4 bb))), .val (.int (Int32.ofNat sm)), .val (.int (Int32.ofNat bg)), .val (.int (Int32.ofNat c0)), .val (.int (0 : Int32))] [(.ref an)]))
            have s158 : ∀ tz, Steps p.tables e below (T157.setTop (mkF m 123 #[.val (.ref a1), .val (.int (Int32.ofNat aa)), .val (.int (Int32.ofNat bb)), .val (.int (Int32.ofNat (own_rt Pa 4 aa))), .val (.int (Int32.ofNat (own_rt (own_fc Pa aa) 4 bb))), .val (.int (Int32.ofNat sm)), .val (.int (Int32.ofNat bg)), .val (.int (Int32.ofNat c0)), .val (.int (0 : Int32))] [(.int (Int32.ofNat c0)), (.ref an)])) tz → Steps p.tables e below (T157.setTop (mkF m 121 #[.val (.ref a1), .val (.int (Int32.ofNat aa)), .val (.int (Int32.ofNat bb)), .val (.int (Int32.ofNat (own_rt Pa 4 aa))), .val (.int (Int32.ofNat (own_rt (own_fc Pa aa) 4 bb))), .val (.int (Int32.ofNat sm)), .val (.int (Int32.ofNat bg)), .val (.int (Int32.ofNat c0)), .val (.int (0 : Int32))] [(.ref an)])) tz := by
              intro tz kz
              refine XS.iload X157.here hx rfl (hb hby d7_121) rfl ?_
              exact kz
            refine OG.step s158 ?_
            have av159 := f29
            obtain ⟨cl159, Ar159, qa_159, Sa_159, Nn_159, Ha_159, Ga_159⟩ := av159
            have hin159 : ¬ ((Int32.ofNat c0) < 0 ∨ cl159.slots.size ≤ ((Int32.ofNat c0)).toNatClampNeg) := inb_of Sa_159 ⟨(own_x4 hc04).1, (own_x4 hc04).2.1⟩
            have hat159 : cl159.slots[((Int32.ofNat c0)).toNatClampNeg]? = some (.int (own_nx (own_g Nx c0))) := Ha_159.at hin159 (own_getn hjk.2.2.2.2.1.1 hc04)
            refine OG.step (X157.iaload hx (j := (Int32.ofNat c0)) (v := (.int (own_nx (own_g Nx c0)))) (by rw [e157]; exact Ar159.1) (State.isArrayOf_alike hZ.alike Ar159.2.1) Ar159.2.2 hin159 hat159 (g := (mkF m 123 #[.val (.ref a1), .val (.int (Int32.ofNat aa)), .val (.int (Int32.ofNat bb)), .val (.int (Int32.ofNat (own_rt Pa 4 aa))), .val (.int (Int32.ofNat (own_rt (own_fc Pa aa) 4 bb))), .val (.int (Int32.ofNat sm)), .val (.int (Int32.ofNat bg)), .val (.int (Int32.ofNat c0)), .val (.int (0 : Int32))] [(.int (Int32.ofNat c0)), (.ref an)])) rfl rfl (hb hby d7_123)) ?_
            show OG _ _ _ _ _ _ _ (T157.setTop (mkF m 124 #[.val (.ref a1), .val (.int (Int32.ofNat aa)), .val (.int (Int32.ofNat bb)), .val (.int (Int32.ofNat (own_rt Pa 4 aa))), .val (.int (Int32.ofNat (own_rt (own_fc Pa aa) 4 bb))), .val (.int (Int32.ofNat sm)), .val (.int (Int32.ofNat bg)), .val (.int (Int32.ofNat c0)), .val (.int (0 : Int32))] [(.int (own_nx (own_g Nx c0)))]))
            have s160 : ∀ tz, Steps p.tables e below (T157.setTop (mkF m 62 #[.val (.ref a1), .val (.int (Int32.ofNat aa)), .val (.int (Int32.ofNat bb)), .val (.int (Int32.ofNat (own_rt Pa 4 aa))), .val (.int (Int32.ofNat (own_rt (own_fc Pa aa) 4 bb))), .val (.int (Int32.ofNat sm)), .val (.int (Int32.ofNat bg)), .val (.int (own_nx (own_g Nx c0))), .val (.int (0 : Int32))] [])) tz → Steps p.tables e below (T157.setTop (mkF m 124 #[.val (.ref a1), .val (.int (Int32.ofNat aa)), .val (.int (Int32.ofNat bb)), .val (.int (Int32.ofNat (own_rt Pa 4 aa))), .val (.int (Int32.ofNat (own_rt (own_fc Pa aa) 4 bb))), .val (.int (Int32.ofNat sm)), .val (.int (Int32.ofNat bg)), .val (.int (Int32.ofNat c0)), .val (.int (0 : Int32))] [(.int (own_nx (own_g Nx c0)))])) tz := by
              intro tz kz
              refine XS.istore X157.here hx rfl (hb hby d7_124) rfl (l' := #[.val (.ref a1), .val (.int (Int32.ofNat aa)), .val (.int (Int32.ofNat bb)), .val (.int (Int32.ofNat (own_rt Pa 4 aa))), .val (.int (Int32.ofNat (own_rt (own_fc Pa aa) 4 bb))), .val (.int (Int32.ofNat sm)), .val (.int (Int32.ofNat bg)), .val (.int (own_nx (own_g Nx c0))), .val (.int (0 : Int32))]) rfl ?_
              refine XS.goto X157.here hx rfl (pc0 := 126) (pc' := 62) rfl (hb hby d7_126) (by decide) (by decide) ?_
              exact kz
            refine OG.step s160 ?_
            exact ih f' (by omega) (own_g Nx c0) _ _ X157 e157 N154 (hjk.2.2.2.2.1.2 c0 hc04) hw'
      exact J60 f0 (own_g Nx sm) _ _ X56 e56 N53 (hjk.2.2.2.2.1.2 sm hs4) hw0
    by_cases hc33 : (Int32.ofNat (own_g Sz (own_rt (own_fc Pa aa) 4 bb))) < (Int32.ofNat (own_g Sz (own_rt Pa 4 aa)))
    · have s161 : ∀ tz, Steps p.tables e below (T40.setTop (mkF m 40 #[.val (.ref a1), .val (.int (Int32.ofNat aa)), .val (.int (Int32.ofNat bb)), .val (.int (Int32.ofNat (own_rt Pa 4 aa))), .val (.int (Int32.ofNat (own_rt (own_fc Pa aa) 4 bb))), .unset, .unset, .unset, .unset] [])) tz → Steps p.tables e below (T40.setTop (mkF m 33 #[.val (.ref a1), .val (.int (Int32.ofNat aa)), .val (.int (Int32.ofNat bb)), .val (.int (Int32.ofNat (own_rt Pa 4 aa))), .val (.int (Int32.ofNat (own_rt (own_fc Pa aa) 4 bb))), .unset, .unset, .unset, .unset] [(.int (Int32.ofNat (own_g Sz (own_rt (own_fc Pa aa) 4 bb)))), (.int (Int32.ofNat (own_g Sz (own_rt Pa 4 aa))))])) tz := by
        intro tz kz
        refine XS.icmpYes X40.here hx rfl (pc0 := 33) (pc' := 40) rfl (hb hby d7_33) rfl (tlt hc33).2.2.1 (by decide) (by decide) ?_
        exact kz
      refine OG.step s161 ?_
      have hz33 := (own_lt (by have : own_g Sz (own_rt (own_fc Pa aa) 4 bb) ≤ 4 := hjk.2.2.2.1.2 _ (hjk.2.1.2.2.1 : (own_rt (own_fc Pa aa) 4 bb) < 4); omega) (by have : own_g Sz (own_rt Pa 4 aa) ≤ 4 := hjk.2.2.2.1.2 _ (hjk.1.2.2.1 : (own_rt Pa 4 aa) < 4); omega)).mp hc33
      have s162 : ∀ tz, Steps p.tables e below (T40.setTop (mkF m 56 #[.val (.ref a1), .val (.int (Int32.ofNat aa)), .val (.int (Int32.ofNat bb)), .val (.int (Int32.ofNat (own_rt Pa 4 aa))), .val (.int (Int32.ofNat (own_rt (own_fc Pa aa) 4 bb))), .val (.int (Int32.ofNat (own_rt (own_fc Pa aa) 4 bb))), .unset, .unset, .unset] [(.int (Int32.ofNat (own_rt Pa 4 aa)))])) tz → Steps p.tables e below (T40.setTop (mkF m 40 #[.val (.ref a1), .val (.int (Int32.ofNat aa)), .val (.int (Int32.ofNat bb)), .val (.int (Int32.ofNat (own_rt Pa 4 aa))), .val (.int (Int32.ofNat (own_rt (own_fc Pa aa) 4 bb))), .unset, .unset, .unset, .unset] [])) tz := by
        intro tz kz
        refine XS.iload X40.here hx rfl (hb hby d7_40) rfl ?_
        refine XS.istore X40.here hx rfl (hb hby d7_42) rfl (l' := #[.val (.ref a1), .val (.int (Int32.ofNat aa)), .val (.int (Int32.ofNat bb)), .val (.int (Int32.ofNat (own_rt Pa 4 aa))), .val (.int (Int32.ofNat (own_rt (own_fc Pa aa) 4 bb))), .val (.int (Int32.ofNat (own_rt (own_fc Pa aa) 4 bb))), .unset, .unset, .unset]) rfl ?_
        refine XS.iload X40.here hx rfl (hb hby d7_44) rfl ?_
        refine XS.iloadN X40.here hx rfl (hb hby d7_46) rfl ?_
        refine XS.icmpYes X40.here hx rfl (pc0 := 47) (pc' := 55) rfl (hb hby d7_47) rfl (feq (fun z => hc16 z.symm)).2 (by decide) (by decide) ?_
        show Steps p.tables e below (T40.setTop (mkF m 55 #[.val (.ref a1), .val (.int (Int32.ofNat aa)), .val (.int (Int32.ofNat bb)), .val (.int (Int32.ofNat (own_rt Pa 4 aa))), .val (.int (Int32.ofNat (own_rt (own_fc Pa aa) 4 bb))), .val (.int (Int32.ofNat (own_rt (own_fc Pa aa) 4 bb))), .unset, .unset, .unset] [])) _
        refine XS.iloadN X40.here hx rfl (hb hby d7_55) rfl ?_
        exact kz
      refine OG.step s162 ?_
      exact J43 (own_rt (own_fc Pa aa) 4 bb) (own_rt Pa 4 aa) _ _ X40 e40 N18 (if_pos hz33).symm (if_pos hz33).symm (hjk.2.1.2.2.1 : (own_rt (own_fc Pa aa) 4 bb) < 4) (hjk.1.2.2.1 : (own_rt Pa 4 aa) < 4)
    · have s163 : ∀ tz, Steps p.tables e below (T40.setTop (mkF m 36 #[.val (.ref a1), .val (.int (Int32.ofNat aa)), .val (.int (Int32.ofNat bb)), .val (.int (Int32.ofNat (own_rt Pa 4 aa))), .val (.int (Int32.ofNat (own_rt (own_fc Pa aa) 4 bb))), .unset, .unset, .unset, .unset] [])) tz → Steps p.tables e below (T40.setTop (mkF m 33 #[.val (.ref a1), .val (.int (Int32.ofNat aa)), .val (.int (Int32.ofNat bb)), .val (.int (Int32.ofNat (own_rt Pa 4 aa))), .val (.int (Int32.ofNat (own_rt (own_fc Pa aa) 4 bb))), .unset, .unset, .unset, .unset] [(.int (Int32.ofNat (own_g Sz (own_rt (own_fc Pa aa) 4 bb)))), (.int (Int32.ofNat (own_g Sz (own_rt Pa 4 aa))))])) tz := by
        intro tz kz
        refine XS.icmpNo X40.here hx rfl (hb hby d7_33) rfl (flt hc33).2.2.1 ?_
        exact kz
      refine OG.step s163 ?_
      have hz33 := mt (own_lt (by have : own_g Sz (own_rt (own_fc Pa aa) 4 bb) ≤ 4 := hjk.2.2.2.1.2 _ (hjk.2.1.2.2.1 : (own_rt (own_fc Pa aa) 4 bb) < 4); omega) (by have : own_g Sz (own_rt Pa 4 aa) ≤ 4 := hjk.2.2.2.1.2 _ (hjk.1.2.2.1 : (own_rt Pa 4 aa) < 4); omega)).mpr hc33
      have s164 : ∀ tz, Steps p.tables e below (T40.setTop (mkF m 56 #[.val (.ref a1), .val (.int (Int32.ofNat aa)), .val (.int (Int32.ofNat bb)), .val (.int (Int32.ofNat (own_rt Pa 4 aa))), .val (.int (Int32.ofNat (own_rt (own_fc Pa aa) 4 bb))), .val (.int (Int32.ofNat (own_rt Pa 4 aa))), .unset, .unset, .unset] [(.int (Int32.ofNat (own_rt (own_fc Pa aa) 4 bb)))])) tz → Steps p.tables e below (T40.setTop (mkF m 36 #[.val (.ref a1), .val (.int (Int32.ofNat aa)), .val (.int (Int32.ofNat bb)), .val (.int (Int32.ofNat (own_rt Pa 4 aa))), .val (.int (Int32.ofNat (own_rt (own_fc Pa aa) 4 bb))), .unset, .unset, .unset, .unset] [])) tz := by
        intro tz kz
        refine XS.iloadN X40.here hx rfl (hb hby d7_36) rfl ?_
        refine XS.goto X40.here hx rfl (pc0 := 37) (pc' := 42) rfl (hb hby d7_37) (by decide) (by decide) ?_
        refine XS.istore X40.here hx rfl (hb hby d7_42) rfl (l' := #[.val (.ref a1), .val (.int (Int32.ofNat aa)), .val (.int (Int32.ofNat bb)), .val (.int (Int32.ofNat (own_rt Pa 4 aa))), .val (.int (Int32.ofNat (own_rt (own_fc Pa aa) 4 bb))), .val (.int (Int32.ofNat (own_rt Pa 4 aa))), .unset, .unset, .unset]) rfl ?_
        refine XS.iload X40.here hx rfl (hb hby d7_44) rfl ?_
        refine XS.iloadN X40.here hx rfl (hb hby d7_46) rfl ?_
        show Steps p.tables e below (T40.setTop (mkF m 47 #[.val (.ref a1), .val (.int (Int32.ofNat aa)), .val (.int (Int32.ofNat bb)), .val (.int (Int32.ofNat (own_rt Pa 4 aa))), .val (.int (Int32.ofNat (own_rt (own_fc Pa aa) 4 bb))), .val (.int (Int32.ofNat (own_rt Pa 4 aa))), .unset, .unset, .unset] [(.int (Int32.ofNat (own_rt Pa 4 aa))), (.int (Int32.ofNat (own_rt Pa 4 aa)))])) _
        refine XS.icmpNo X40.here hx rfl (hb hby d7_47) rfl (teq rfl).2 ?_
        refine XS.iload X40.here hx rfl (hb hby d7_50) rfl ?_
        refine XS.goto X40.here hx rfl (pc0 := 52) (pc' := 56) rfl (hb hby d7_52) (by decide) (by decide) ?_
        exact kz
      refine OG.step s164 ?_
      exact J43 (own_rt Pa 4 aa) (own_rt (own_fc Pa aa) 4 bb) _ _ X40 e40 N18 (if_neg hz33).symm (if_neg hz33).symm (hjk.1.2.2.1 : (own_rt Pa 4 aa) < 4) (hjk.2.1.2.2.1 : (own_rt (own_fc Pa aa) 4 bb) < 4)
theorem d9_0 : decode method_3_code 0 = .ok (.aload_n 0, 1) := by decide +kernel
theorem d9_1 : decode method_3_code 1 = .ok (.iload_n 1, 1) := by decide +kernel
theorem d9_2 : decode method_3_code 2 = .ok (.iaload, 1) := by decide +kernel
theorem d9_3 : decode method_3_code 3 = .ok (.istore_n 3, 1) := by decide +kernel
theorem d9_4 : decode method_3_code 4 = .ok (.aload_n 0, 1) := by decide +kernel
theorem d9_5 : decode method_3_code 5 = .ok (.iload_n 2, 1) := by decide +kernel
theorem d9_6 : decode method_3_code 6 = .ok (.iaload, 1) := by decide +kernel
theorem d9_7 : decode method_3_code 7 = .ok (.istore 4, 2) := by decide +kernel
theorem d9_9 : decode method_3_code 9 = .ok (.aload_n 0, 1) := by decide +kernel
theorem d9_10 : decode method_3_code 10 = .ok (.iconst 0, 1) := by decide +kernel
theorem d9_11 : decode method_3_code 11 = .ok (.iaload, 1) := by decide +kernel
theorem d9_12 : decode method_3_code 12 = .ok (.iload_n 3, 1) := by decide +kernel
theorem d9_13 : decode method_3_code 13 = .ok (.if_icmp .ne 8, 3) := by decide +kernel
theorem d9_16 : decode method_3_code 16 = .ok (.aload_n 0, 1) := by decide +kernel
theorem d9_17 : decode method_3_code 17 = .ok (.iconst 0, 1) := by decide +kernel
theorem d9_18 : decode method_3_code 18 = .ok (.iload 4, 2) := by decide +kernel
theorem d9_20 : decode method_3_code 20 = .ok (.iastore, 1) := by decide +kernel
theorem d9_21 : decode method_3_code 21 = .ok (.aload_n 0, 1) := by decide +kernel
theorem d9_22 : decode method_3_code 22 = .ok (.iconst 1, 1) := by decide +kernel
theorem d9_23 : decode method_3_code 23 = .ok (.iaload, 1) := by decide +kernel
theorem d9_24 : decode method_3_code 24 = .ok (.iload_n 3, 1) := by decide +kernel
theorem d9_25 : decode method_3_code 25 = .ok (.if_icmp .ne 8, 3) := by decide +kernel
theorem d9_28 : decode method_3_code 28 = .ok (.aload_n 0, 1) := by decide +kernel
theorem d9_29 : decode method_3_code 29 = .ok (.iconst 1, 1) := by decide +kernel
theorem d9_30 : decode method_3_code 30 = .ok (.iload 4, 2) := by decide +kernel
theorem d9_32 : decode method_3_code 32 = .ok (.iastore, 1) := by decide +kernel
theorem d9_33 : decode method_3_code 33 = .ok (.aload_n 0, 1) := by decide +kernel
theorem d9_34 : decode method_3_code 34 = .ok (.iconst 2, 1) := by decide +kernel
theorem d9_35 : decode method_3_code 35 = .ok (.iaload, 1) := by decide +kernel
theorem d9_36 : decode method_3_code 36 = .ok (.iload_n 3, 1) := by decide +kernel
theorem d9_37 : decode method_3_code 37 = .ok (.if_icmp .ne 8, 3) := by decide +kernel
theorem d9_40 : decode method_3_code 40 = .ok (.aload_n 0, 1) := by decide +kernel
theorem d9_41 : decode method_3_code 41 = .ok (.iconst 2, 1) := by decide +kernel
theorem d9_42 : decode method_3_code 42 = .ok (.iload 4, 2) := by decide +kernel
theorem d9_44 : decode method_3_code 44 = .ok (.iastore, 1) := by decide +kernel
theorem d9_45 : decode method_3_code 45 = .ok (.aload_n 0, 1) := by decide +kernel
theorem d9_46 : decode method_3_code 46 = .ok (.iconst 3, 1) := by decide +kernel
theorem d9_47 : decode method_3_code 47 = .ok (.iaload, 1) := by decide +kernel
theorem d9_48 : decode method_3_code 48 = .ok (.iload_n 3, 1) := by decide +kernel
theorem d9_49 : decode method_3_code 49 = .ok (.if_icmp .ne 8, 3) := by decide +kernel
theorem d9_52 : decode method_3_code 52 = .ok (.aload_n 0, 1) := by decide +kernel
theorem d9_53 : decode method_3_code 53 = .ok (.iconst 3, 1) := by decide +kernel
theorem d9_54 : decode method_3_code 54 = .ok (.iload 4, 2) := by decide +kernel
theorem d9_56 : decode method_3_code 56 = .ok (.iastore, 1) := by decide +kernel
theorem d9_57 : decode method_3_code 57 = .ok (.return_, 1) := by decide +kernel
theorem pn_com_example_tidegraph_tidegraph_amd64_LiveRangesFindPinLaw : plainName "com/example/tidegraph/tidegraph/amd64/LiveRangesFindPinLaw" = true := by first | (simp [plainName, overriddenIn]; done) | decide +kernel
theorem ef_9 (m : MethodId) (x0 : Addr) (x1 : Int32) (x2 : Int32) : entryFrame m #[(.ref x0), (.int x1), (.int x2)] 5 = mkF m 0 #[.val (.ref x0), .val (.int x1), .val (.int x2), .unset, .unset] [] := by first | (simp [entryFrame, mkF, argsToLocals, Value.category]; done) | rfl
def Q9 (Z : State) (o1 : Addr) (aa : Nat) (bb : Nat) (k1 : ClassId) (Lb : List Nat) (h0 : Heap) (n0 : Nat) (v : Option Value) (h : Heap) (L : List Loc) : Prop := (v = none) ∧ (Fr n0 L) ∧ (Keep h0 h [o1]) ∧ (Arv Z h o1 k1 .int (4 : Int32) (own_vl (own_rl Lb aa bb)) (.int (0 : Int32)))
abbrev rom_9 : Room := { frames := 0, cells := 0, slots := 0, locals := 0 }
set_option maxRecDepth 65536 in
set_option maxHeartbeats 40000000 in
theorem rm9 (l : Launch) (Z : State) (a0 : Array Value) (hw : ∀ d ∈ tables_1, d.before a0 Z = true) (ws : List Jvm.Cond) (o1 : Addr) (aa : Nat) (bb : Nat) (k1 : ClassId) (Lb : List Nat) (h0 : Heap) (n0 : Nat) (Z0 : n0 ≤ h0.size) (F0_o1 : Arv Z h0 o1 k1 .int (4 : Int32) (own_vl Lb) (.int (0 : Int32))) (g_o1 : n0 ≤ o1) (hrg : own_rg Lb) (ha4 : aa < 4) (hb4 : bb < 4) :
    MetFree l (⟨"com/example/tidegraph/tidegraph/amd64/LiveRangesFindPinLaw", "relabel", "([III)V"⟩ : MethodName) (head1 (Jvm.Cond.code (⟨"com/example/tidegraph/tidegraph/amd64/LiveRangesFindPinLaw", "relabel", "([III)V"⟩ : MethodName) method_3_code 5 none :: ws) rom_9) (fun a U => a = #[(.ref o1), (.int (Int32.ofNat aa)), (.int (Int32.ofNat bb))] ∧ Z.Warmed39 U.vm ∧ U.heap = h0) (fun _ _ _ _ _ => True) (fun _ U o U' => ∃ v L, o = .returned v ∧ Q9 Z o1 aa bb k1 Lb h0 n0 v U'.heap L ∧ FrameEnd U o U' L rom_9.cells rom_9.slots) := by
  refine MetFree.of_bodySF (plainFor_of_name pn_com_example_tidegraph_tidegraph_amd64_LiveRangesFindPinLaw) hisR ?_
  intro p e s m args below meth c s₁ Bd hml0 hP hK
  obtain ⟨rfl, hZ, hh⟩ := hP
  have hx := Bd.exec
  have hby := Bd.bytes
  have hlk := Bd.notSynchronized
  have hml : c.maxLocals = 5 := hml0
  have hown : s.vm.findClass "com/example/tidegraph/tidegraph/amd64/LiveRangesFindPinLaw" = some m.cls := findClass_of_methodNamed Bd.named
  have hnm := (name_of_methodNamed Bd.named Bd.method).1
  have X0 : Stand p l e rom_9 s m #[(.ref o1), (.int (Int32.ofNat aa)), (.int (Int32.ofNat bb))] below meth c s₁ [] 0 0 := Stand.of_body Bd
  have e0 : s₁.heap = h0 := by rw [← hh, Bd.state]; rfl
  have N0 := Fr.nil n0
  have K0 : Keep h0 h0 [o1] := Keep.refl _ _
  refine (?_ : OG p e below s (Q9 Z o1 aa bb k1 Lb h0 n0) rom_9.cells rom_9.slots _)
  rw [ef_9]
  have s1 : ∀ tz, Steps p.tables e below (s₁.setTop (mkF m 2 #[.val (.ref o1), .val (.int (Int32.ofNat aa)), .val (.int (Int32.ofNat bb)), .unset, .unset] [(.int (Int32.ofNat aa)), (.ref o1)])) tz → Steps p.tables e below (s₁.setTop (mkF m 0 #[.val (.ref o1), .val (.int (Int32.ofNat aa)), .val (.int (Int32.ofNat bb)), .unset, .unset] [])) tz := by
    intro tz kz
    refine XS.aloadN X0.here hx rfl (hb hby d9_0) rfl rfl ?_
    refine XS.iloadN X0.here hx rfl (hb hby d9_1) rfl ?_
    exact kz
  refine OG.step s1 ?_
  have av2 := F0_o1
  obtain ⟨cl2, Ar2, qa_2, Sa_2, Nn_2, Ha_2, Ga_2⟩ := av2
  have hin2 : ¬ ((Int32.ofNat aa) < 0 ∨ cl2.slots.size ≤ ((Int32.ofNat aa)).toNatClampNeg) := inb_of Sa_2 ⟨(own_x4 ha4).1, (own_x4 ha4).2.1⟩
  have hat2 : cl2.slots[((Int32.ofNat aa)).toNatClampNeg]? = some (.int (Int32.ofNat (own_g Lb aa))) := Ha_2.at hin2 (own_get hrg.1 ha4)
  refine OG.step (X0.iaload hx (j := (Int32.ofNat aa)) (v := (.int (Int32.ofNat (own_g Lb aa)))) (by rw [e0]; exact Ar2.1) (State.isArrayOf_alike hZ.alike Ar2.2.1) Ar2.2.2 hin2 hat2 (g := (mkF m 2 #[.val (.ref o1), .val (.int (Int32.ofNat aa)), .val (.int (Int32.ofNat bb)), .unset, .unset] [(.int (Int32.ofNat aa)), (.ref o1)])) rfl rfl (hb hby d9_2)) ?_
  show OG _ _ _ _ _ _ _ (s₁.setTop (mkF m 3 #[.val (.ref o1), .val (.int (Int32.ofNat aa)), .val (.int (Int32.ofNat bb)), .unset, .unset] [(.int (Int32.ofNat (own_g Lb aa)))]))
  have s3 : ∀ tz, Steps p.tables e below (s₁.setTop (mkF m 6 #[.val (.ref o1), .val (.int (Int32.ofNat aa)), .val (.int (Int32.ofNat bb)), .val (.int (Int32.ofNat (own_g Lb aa))), .unset] [(.int (Int32.ofNat bb)), (.ref o1)])) tz → Steps p.tables e below (s₁.setTop (mkF m 3 #[.val (.ref o1), .val (.int (Int32.ofNat aa)), .val (.int (Int32.ofNat bb)), .unset, .unset] [(.int (Int32.ofNat (own_g Lb aa)))])) tz := by
    intro tz kz
    refine XS.istoreN X0.here hx rfl (hb hby d9_3) rfl (l' := #[.val (.ref o1), .val (.int (Int32.ofNat aa)), .val (.int (Int32.ofNat bb)), .val (.int (Int32.ofNat (own_g Lb aa))), .unset]) rfl ?_
    refine XS.aloadN X0.here hx rfl (hb hby d9_4) rfl rfl ?_
    refine XS.iloadN X0.here hx rfl (hb hby d9_5) rfl ?_
    exact kz
  refine OG.step s3 ?_
  have av4 := F0_o1
  obtain ⟨cl4, Ar4, qa_4, Sa_4, Nn_4, Ha_4, Ga_4⟩ := av4
  have hin4 : ¬ ((Int32.ofNat bb) < 0 ∨ cl4.slots.size ≤ ((Int32.ofNat bb)).toNatClampNeg) := inb_of Sa_4 ⟨(own_x4 hb4).1, (own_x4 hb4).2.1⟩
  have hat4 : cl4.slots[((Int32.ofNat bb)).toNatClampNeg]? = some (.int (Int32.ofNat (own_g Lb bb))) := Ha_4.at hin4 (own_get hrg.1 hb4)
  refine OG.step (X0.iaload hx (j := (Int32.ofNat bb)) (v := (.int (Int32.ofNat (own_g Lb bb)))) (by rw [e0]; exact Ar4.1) (State.isArrayOf_alike hZ.alike Ar4.2.1) Ar4.2.2 hin4 hat4 (g := (mkF m 6 #[.val (.ref o1), .val (.int (Int32.ofNat aa)), .val (.int (Int32.ofNat bb)), .val (.int (Int32.ofNat (own_g Lb aa))), .unset] [(.int (Int32.ofNat bb)), (.ref o1)])) rfl rfl (hb hby d9_6)) ?_
  show OG _ _ _ _ _ _ _ (s₁.setTop (mkF m 7 #[.val (.ref o1), .val (.int (Int32.ofNat aa)), .val (.int (Int32.ofNat bb)), .val (.int (Int32.ofNat (own_g Lb aa))), .unset] [(.int (Int32.ofNat (own_g Lb bb)))]))
  have s5 : ∀ tz, Steps p.tables e below (s₁.setTop (mkF m 11 #[.val (.ref o1), .val (.int (Int32.ofNat aa)), .val (.int (Int32.ofNat bb)), .val (.int (Int32.ofNat (own_g Lb aa))), .val (.int (Int32.ofNat (own_g Lb bb)))] [(.int (0 : Int32)), (.ref o1)])) tz → Steps p.tables e below (s₁.setTop (mkF m 7 #[.val (.ref o1), .val (.int (Int32.ofNat aa)), .val (.int (Int32.ofNat bb)), .val (.int (Int32.ofNat (own_g Lb aa))), .unset] [(.int (Int32.ofNat (own_g Lb bb)))])) tz := by
    intro tz kz
    refine XS.istore X0.here hx rfl (hb hby d9_7) rfl (l' := #[.val (.ref o1), .val (.int (Int32.ofNat aa)), .val (.int (Int32.ofNat bb)), .val (.int (Int32.ofNat (own_g Lb aa))), .val (.int (Int32.ofNat (own_g Lb bb)))]) rfl ?_
    refine XS.aloadN X0.here hx rfl (hb hby d9_9) rfl rfl ?_
    refine XS.iconst X0.here hx rfl (hb hby d9_10) ?_
    exact kz
  refine OG.step s5 ?_
  have av6 := F0_o1
  obtain ⟨cl6, Ar6, qa_6, Sa_6, Nn_6, Ha_6, Ga_6⟩ := av6
  have hin6 : ¬ ((0 : Int32) < 0 ∨ cl6.slots.size ≤ ((0 : Int32)).toNatClampNeg) := inb_of Sa_6 ⟨(own_x4 (by decide : 0 < 4)).1, (own_x4 (by decide : 0 < 4)).2.1⟩
  have hat6 : cl6.slots[((0 : Int32)).toNatClampNeg]? = some (.int (Int32.ofNat (own_g Lb 0))) := Ha_6.at hin6 (own_get hrg.1 (by decide : 0 < 4))
  refine OG.step (X0.iaload hx (j := (0 : Int32)) (v := (.int (Int32.ofNat (own_g Lb 0)))) (by rw [e0]; exact Ar6.1) (State.isArrayOf_alike hZ.alike Ar6.2.1) Ar6.2.2 hin6 hat6 (g := (mkF m 11 #[.val (.ref o1), .val (.int (Int32.ofNat aa)), .val (.int (Int32.ofNat bb)), .val (.int (Int32.ofNat (own_g Lb aa))), .val (.int (Int32.ofNat (own_g Lb bb)))] [(.int (0 : Int32)), (.ref o1)])) rfl rfl (hb hby d9_11)) ?_
  show OG _ _ _ _ _ _ _ (s₁.setTop (mkF m 12 #[.val (.ref o1), .val (.int (Int32.ofNat aa)), .val (.int (Int32.ofNat bb)), .val (.int (Int32.ofNat (own_g Lb aa))), .val (.int (Int32.ofNat (own_g Lb bb)))] [(.int (Int32.ofNat (own_g Lb 0)))]))
  have s7 : ∀ tz, Steps p.tables e below (s₁.setTop (mkF m 13 #[.val (.ref o1), .val (.int (Int32.ofNat aa)), .val (.int (Int32.ofNat bb)), .val (.int (Int32.ofNat (own_g Lb aa))), .val (.int (Int32.ofNat (own_g Lb bb)))] [(.int (Int32.ofNat (own_g Lb aa))), (.int (Int32.ofNat (own_g Lb 0)))])) tz → Steps p.tables e below (s₁.setTop (mkF m 12 #[.val (.ref o1), .val (.int (Int32.ofNat aa)), .val (.int (Int32.ofNat bb)), .val (.int (Int32.ofNat (own_g Lb aa))), .val (.int (Int32.ofNat (own_g Lb bb)))] [(.int (Int32.ofNat (own_g Lb 0)))])) tz := by
    intro tz kz
    refine XS.iloadN X0.here hx rfl (hb hby d9_12) rfl ?_
    exact kz
  refine OG.step s7 ?_
  have J8 : ∀ (Hj8 : Heap) (Tj8 : State) (Lj8 : List Loc), Stand p l e rom_9 s m #[(.ref o1), (.int (Int32.ofNat aa)), (.int (Int32.ofNat bb))] below meth c Tj8 Lj8 0 0 → Tj8.heap = Hj8 → Fr n0 Lj8 → (Keep h0 Hj8 [o1]) → (Arv Z Hj8 o1 k1 .int (4 : Int32) (own_vl (own_rs (own_g Lb aa) (own_g Lb bb) 0 Lb)) (.int (0 : Int32))) → OG p e below s (Q9 Z o1 aa bb k1 Lb h0 n0) rom_9.cells rom_9.slots (Tj8.setTop (mkF m 21 #[.val (.ref o1), .val (.int (Int32.ofNat aa)), .val (.int (Int32.ofNat bb)), .val (.int (Int32.ofNat (own_g Lb aa))), .val (.int (Int32.ofNat (own_g Lb bb)))] [])) := by
    intro Hj8 Tj8 Lj8 Xj8 ej8 Nj8 Kj8 fj8_0
    have s9 : ∀ tz, Steps p.tables e below (Tj8.setTop (mkF m 23 #[.val (.ref o1), .val (.int (Int32.ofNat aa)), .val (.int (Int32.ofNat bb)), .val (.int (Int32.ofNat (own_g Lb aa))), .val (.int (Int32.ofNat (own_g Lb bb)))] [(.int (1 : Int32)), (.ref o1)])) tz → Steps p.tables e below (Tj8.setTop (mkF m 21 #[.val (.ref o1), .val (.int (Int32.ofNat aa)), .val (.int (Int32.ofNat bb)), .val (.int (Int32.ofNat (own_g Lb aa))), .val (.int (Int32.ofNat (own_g Lb bb)))] [])) tz := by
      intro tz kz
      refine XS.aloadN Xj8.here hx rfl (hb hby d9_21) rfl rfl ?_
      refine XS.iconst Xj8.here hx rfl (hb hby d9_22) ?_
      exact kz
    refine OG.step s9 ?_
    have av10 := fj8_0
    obtain ⟨cl10, Ar10, qa_10, Sa_10, Nn_10, Ha_10, Ga_10⟩ := av10
    have hin10 : ¬ ((1 : Int32) < 0 ∨ cl10.slots.size ≤ ((1 : Int32)).toNatClampNeg) := inb_of Sa_10 ⟨(own_x4 (by decide : 1 < 4)).1, (own_x4 (by decide : 1 < 4)).2.1⟩
    have hat10 : cl10.slots[((1 : Int32)).toNatClampNeg]? = some (.int (Int32.ofNat (own_g (own_rs (own_g Lb aa) (own_g Lb bb) 0 Lb) 1))) := Ha_10.at hin10 (own_get (own_rsg hrg (hrg.2 bb hb4)).1 (by decide : 1 < 4))
    refine OG.step (Xj8.iaload hx (j := (1 : Int32)) (v := (.int (Int32.ofNat (own_g (own_rs (own_g Lb aa) (own_g Lb bb) 0 Lb) 1)))) (by rw [ej8]; exact Ar10.1) (State.isArrayOf_alike hZ.alike Ar10.2.1) Ar10.2.2 hin10 hat10 (g := (mkF m 23 #[.val (.ref o1), .val (.int (Int32.ofNat aa)), .val (.int (Int32.ofNat bb)), .val (.int (Int32.ofNat (own_g Lb aa))), .val (.int (Int32.ofNat (own_g Lb bb)))] [(.int (1 : Int32)), (.ref o1)])) rfl rfl (hb hby d9_23)) ?_
    show OG _ _ _ _ _ _ _ (Tj8.setTop (mkF m 24 #[.val (.ref o1), .val (.int (Int32.ofNat aa)), .val (.int (Int32.ofNat bb)), .val (.int (Int32.ofNat (own_g Lb aa))), .val (.int (Int32.ofNat (own_g Lb bb)))] [(.int (Int32.ofNat (own_g (own_rs (own_g Lb aa) (own_g Lb bb) 0 Lb) 1)))]))
    have s11 : ∀ tz, Steps p.tables e below (Tj8.setTop (mkF m 25 #[.val (.ref o1), .val (.int (Int32.ofNat aa)), .val (.int (Int32.ofNat bb)), .val (.int (Int32.ofNat (own_g Lb aa))), .val (.int (Int32.ofNat (own_g Lb bb)))] [(.int (Int32.ofNat (own_g Lb aa))), (.int (Int32.ofNat (own_g (own_rs (own_g Lb aa) (own_g Lb bb) 0 Lb) 1)))])) tz → Steps p.tables e below (Tj8.setTop (mkF m 24 #[.val (.ref o1), .val (.int (Int32.ofNat aa)), .val (.int (Int32.ofNat bb)), .val (.int (Int32.ofNat (own_g Lb aa))), .val (.int (Int32.ofNat (own_g Lb bb)))] [(.int (Int32.ofNat (own_g (own_rs (own_g Lb aa) (own_g Lb bb) 0 Lb) 1)))])) tz := by
      intro tz kz
      refine XS.iloadN Xj8.here hx rfl (hb hby d9_24) rfl ?_
      exact kz
    refine OG.step s11 ?_
    have J12 : ∀ (Hj12 : Heap) (Tj12 : State) (Lj12 : List Loc), Stand p l e rom_9 s m #[(.ref o1), (.int (Int32.ofNat aa)), (.int (Int32.ofNat bb))] below meth c Tj12 Lj12 0 0 → Tj12.heap = Hj12 → Fr n0 Lj12 → (Keep h0 Hj12 [o1]) → (Arv Z Hj12 o1 k1 .int (4 : Int32) (own_vl (own_rs (own_g Lb aa) (own_g Lb bb) 1 (own_rs (own_g Lb aa) (own_g Lb bb) 0 Lb))) (.int (0 : Int32))) → OG p e below s (Q9 Z o1 aa bb k1 Lb h0 n0) rom_9.cells rom_9.slots (Tj12.setTop (mkF m 33 #[.val (.ref o1), .val (.int (Int32.ofNat aa)), .val (.int (Int32.ofNat bb)), .val (.int (Int32.ofNat (own_g Lb aa))), .val (.int (Int32.ofNat (own_g Lb bb)))] [])) := by
      intro Hj12 Tj12 Lj12 Xj12 ej12 Nj12 Kj12 fj12_0
      have s13 : ∀ tz, Steps p.tables e below (Tj12.setTop (mkF m 35 #[.val (.ref o1), .val (.int (Int32.ofNat aa)), .val (.int (Int32.ofNat bb)), .val (.int (Int32.ofNat (own_g Lb aa))), .val (.int (Int32.ofNat (own_g Lb bb)))] [(.int (2 : Int32)), (.ref o1)])) tz → Steps p.tables e below (Tj12.setTop (mkF m 33 #[.val (.ref o1), .val (.int (Int32.ofNat aa)), .val (.int (Int32.ofNat bb)), .val (.int (Int32.ofNat (own_g Lb aa))), .val (.int (Int32.ofNat (own_g Lb bb)))] [])) tz := by
        intro tz kz
        refine XS.aloadN Xj12.here hx rfl (hb hby d9_33) rfl rfl ?_
        refine XS.iconst Xj12.here hx rfl (hb hby d9_34) ?_
        exact kz
      refine OG.step s13 ?_
      have av14 := fj12_0
      obtain ⟨cl14, Ar14, qa_14, Sa_14, Nn_14, Ha_14, Ga_14⟩ := av14
      have hin14 : ¬ ((2 : Int32) < 0 ∨ cl14.slots.size ≤ ((2 : Int32)).toNatClampNeg) := inb_of Sa_14 ⟨(own_x4 (by decide : 2 < 4)).1, (own_x4 (by decide : 2 < 4)).2.1⟩
      have hat14 : cl14.slots[((2 : Int32)).toNatClampNeg]? = some (.int (Int32.ofNat (own_g (own_rs (own_g Lb aa) (own_g Lb bb) 1 (own_rs (own_g Lb aa) (own_g Lb bb) 0 Lb)) 2))) := Ha_14.at hin14 (own_get (own_rsg (own_rsg hrg (hrg.2 bb hb4)) (hrg.2 bb hb4)).1 (by decide : 2 < 4))
      refine OG.step (Xj12.iaload hx (j := (2 : Int32)) (v := (.int (Int32.ofNat (own_g (own_rs (own_g Lb aa) (own_g Lb bb) 1 (own_rs (own_g Lb aa) (own_g Lb bb) 0 Lb)) 2)))) (by rw [ej12]; exact Ar14.1) (State.isArrayOf_alike hZ.alike Ar14.2.1) Ar14.2.2 hin14 hat14 (g := (mkF m 35 #[.val (.ref o1), .val (.int (Int32.ofNat aa)), .val (.int (Int32.ofNat bb)), .val (.int (Int32.ofNat (own_g Lb aa))), .val (.int (Int32.ofNat (own_g Lb bb)))] [(.int (2 : Int32)), (.ref o1)])) rfl rfl (hb hby d9_35)) ?_
      show OG _ _ _ _ _ _ _ (Tj12.setTop (mkF m 36 #[.val (.ref o1), .val (.int (Int32.ofNat aa)), .val (.int (Int32.ofNat bb)), .val (.int (Int32.ofNat (own_g Lb aa))), .val (.int (Int32.ofNat (own_g Lb bb)))] [(.int (Int32.ofNat (own_g (own_rs (own_g Lb aa) (own_g Lb bb) 1 (own_rs (own_g Lb aa) (own_g Lb bb) 0 Lb)) 2)))]))
      have s15 : ∀ tz, Steps p.tables e below (Tj12.setTop (mkF m 37 #[.val (.ref o1), .val (.int (Int32.ofNat aa)), .val (.int (Int32.ofNat bb)), .val (.int (Int32.ofNat (own_g Lb aa))), .val (.int (Int32.ofNat (own_g Lb bb)))] [(.int (Int32.ofNat (own_g Lb aa))), (.int (Int32.ofNat (own_g (own_rs (own_g Lb aa) (own_g Lb bb) 1 (own_rs (own_g Lb aa) (own_g Lb bb) 0 Lb)) 2)))])) tz → Steps p.tables e below (Tj12.setTop (mkF m 36 #[.val (.ref o1), .val (.int (Int32.ofNat aa)), .val (.int (Int32.ofNat bb)), .val (.int (Int32.ofNat (own_g Lb aa))), .val (.int (Int32.ofNat (own_g Lb bb)))] [(.int (Int32.ofNat (own_g (own_rs (own_g Lb aa) (own_g Lb bb) 1 (own_rs (own_g Lb aa) (own_g Lb bb) 0 Lb)) 2)))])) tz := by
        intro tz kz
        refine XS.iloadN Xj12.here hx rfl (hb hby d9_36) rfl ?_
        exact kz
      refine OG.step s15 ?_
      have J16 : ∀ (Hj16 : Heap) (Tj16 : State) (Lj16 : List Loc), Stand p l e rom_9 s m #[(.ref o1), (.int (Int32.ofNat aa)), (.int (Int32.ofNat bb))] below meth c Tj16 Lj16 0 0 → Tj16.heap = Hj16 → Fr n0 Lj16 → (Keep h0 Hj16 [o1]) → (Arv Z Hj16 o1 k1 .int (4 : Int32) (own_vl (own_rs (own_g Lb aa) (own_g Lb bb) 2 (own_rs (own_g Lb aa) (own_g Lb bb) 1 (own_rs (own_g Lb aa) (own_g Lb bb) 0 Lb)))) (.int (0 : Int32))) → OG p e below s (Q9 Z o1 aa bb k1 Lb h0 n0) rom_9.cells rom_9.slots (Tj16.setTop (mkF m 45 #[.val (.ref o1), .val (.int (Int32.ofNat aa)), .val (.int (Int32.ofNat bb)), .val (.int (Int32.ofNat (own_g Lb aa))), .val (.int (Int32.ofNat (own_g Lb bb)))] [])) := by
        intro Hj16 Tj16 Lj16 Xj16 ej16 Nj16 Kj16 fj16_0
        have s17 : ∀ tz, Steps p.tables e below (Tj16.setTop (mkF m 47 #[.val (.ref o1), .val (.int (Int32.ofNat aa)), .val (.int (Int32.ofNat bb)), .val (.int (Int32.ofNat (own_g Lb aa))), .val (.int (Int32.ofNat (own_g Lb bb)))] [(.int (3 : Int32)), (.ref o1)])) tz → Steps p.tables e below (Tj16.setTop (mkF m 45 #[.val (.ref o1), .val (.int (Int32.ofNat aa)), .val (.int (Int32.ofNat bb)), .val (.int (Int32.ofNat (own_g Lb aa))), .val (.int (Int32.ofNat (own_g Lb bb)))] [])) tz := by
          intro tz kz
          refine XS.aloadN Xj16.here hx rfl (hb hby d9_45) rfl rfl ?_
          refine XS.iconst Xj16.here hx rfl (hb hby d9_46) ?_
          exact kz
        refine OG.step s17 ?_
        have av18 := fj16_0
        obtain ⟨cl18, Ar18, qa_18, Sa_18, Nn_18, Ha_18, Ga_18⟩ := av18
        have hin18 : ¬ ((3 : Int32) < 0 ∨ cl18.slots.size ≤ ((3 : Int32)).toNatClampNeg) := inb_of Sa_18 ⟨(own_x4 (by decide : 3 < 4)).1, (own_x4 (by decide : 3 < 4)).2.1⟩
        have hat18 : cl18.slots[((3 : Int32)).toNatClampNeg]? = some (.int (Int32.ofNat (own_g (own_rs (own_g Lb aa) (own_g Lb bb) 2 (own_rs (own_g Lb aa) (own_g Lb bb) 1 (own_rs (own_g Lb aa) (own_g Lb bb) 0 Lb))) 3))) := Ha_18.at hin18 (own_get (own_rsg (own_rsg (own_rsg hrg (hrg.2 bb hb4)) (hrg.2 bb hb4)) (hrg.2 bb hb4)).1 (by decide : 3 < 4))
        refine OG.step (Xj16.iaload hx (j := (3 : Int32)) (v := (.int (Int32.ofNat (own_g (own_rs (own_g Lb aa) (own_g Lb bb) 2 (own_rs (own_g Lb aa) (own_g Lb bb) 1 (own_rs (own_g Lb aa) (own_g Lb bb) 0 Lb))) 3)))) (by rw [ej16]; exact Ar18.1) (State.isArrayOf_alike hZ.alike Ar18.2.1) Ar18.2.2 hin18 hat18 (g := (mkF m 47 #[.val (.ref o1), .val (.int (Int32.ofNat aa)), .val (.int (Int32.ofNat bb)), .val (.int (Int32.ofNat (own_g Lb aa))), .val (.int (Int32.ofNat (own_g Lb bb)))] [(.int (3 : Int32)), (.ref o1)])) rfl rfl (hb hby d9_47)) ?_
        show OG _ _ _ _ _ _ _ (Tj16.setTop (mkF m 48 #[.val (.ref o1), .val (.int (Int32.ofNat aa)), .val (.int (Int32.ofNat bb)), .val (.int (Int32.ofNat (own_g Lb aa))), .val (.int (Int32.ofNat (own_g Lb bb)))] [(.int (Int32.ofNat (own_g (own_rs (own_g Lb aa) (own_g Lb bb) 2 (own_rs (own_g Lb aa) (own_g Lb bb) 1 (own_rs (own_g Lb aa) (own_g Lb bb) 0 Lb))) 3)))]))
        have s19 : ∀ tz, Steps p.tables e below (Tj16.setTop (mkF m 49 #[.val (.ref o1), .val (.int (Int32.ofNat aa)), .val (.int (Int32.ofNat bb)), .val (.int (Int32.ofNat (own_g Lb aa))), .val (.int (Int32.ofNat (own_g Lb bb)))] [(.int (Int32.ofNat (own_g Lb aa))), (.int (Int32.ofNat (own_g (own_rs (own_g Lb aa) (own_g Lb bb) 2 (own_rs (own_g Lb aa) (own_g Lb bb) 1 (own_rs (own_g Lb aa) (own_g Lb bb) 0 Lb))) 3)))])) tz → Steps p.tables e below (Tj16.setTop (mkF m 48 #[.val (.ref o1), .val (.int (Int32.ofNat aa)), .val (.int (Int32.ofNat bb)), .val (.int (Int32.ofNat (own_g Lb aa))), .val (.int (Int32.ofNat (own_g Lb bb)))] [(.int (Int32.ofNat (own_g (own_rs (own_g Lb aa) (own_g Lb bb) 2 (own_rs (own_g Lb aa) (own_g Lb bb) 1 (own_rs (own_g Lb aa) (own_g Lb bb) 0 Lb))) 3)))])) tz := by
          intro tz kz
          refine XS.iloadN Xj16.here hx rfl (hb hby d9_48) rfl ?_
          exact kz
        refine OG.step s19 ?_
        have J20 : ∀ (Hj20 : Heap) (Tj20 : State) (Lj20 : List Loc), Stand p l e rom_9 s m #[(.ref o1), (.int (Int32.ofNat aa)), (.int (Int32.ofNat bb))] below meth c Tj20 Lj20 0 0 → Tj20.heap = Hj20 → Fr n0 Lj20 → (Keep h0 Hj20 [o1]) → (Arv Z Hj20 o1 k1 .int (4 : Int32) (own_vl (own_rs (own_g Lb aa) (own_g Lb bb) 3 (own_rs (own_g Lb aa) (own_g Lb bb) 2 (own_rs (own_g Lb aa) (own_g Lb bb) 1 (own_rs (own_g Lb aa) (own_g Lb bb) 0 Lb))))) (.int (0 : Int32))) → OG p e below s (Q9 Z o1 aa bb k1 Lb h0 n0) rom_9.cells rom_9.slots (Tj20.setTop (mkF m 57 #[.val (.ref o1), .val (.int (Int32.ofNat aa)), .val (.int (Int32.ofNat bb)), .val (.int (Int32.ofNat (own_g Lb aa))), .val (.int (Int32.ofNat (own_g Lb bb)))] [])) := by
          intro Hj20 Tj20 Lj20 Xj20 ej20 Nj20 Kj20 fj20_0
          exact OG.retV Xj20 hx hlk Bd.returns (hb hby d9_57) ej20 ⟨rfl, Nj20, Kj20, fj20_0⟩ (by decide) (by decide)
        by_cases hc49 : (Int32.ofNat (own_g (own_rs (own_g Lb aa) (own_g Lb bb) 2 (own_rs (own_g Lb aa) (own_g Lb bb) 1 (own_rs (own_g Lb aa) (own_g Lb bb) 0 Lb))) 3)) = (Int32.ofNat (own_g Lb aa))
        · have s21 : ∀ tz, Steps p.tables e below (Tj16.setTop (mkF m 56 #[.val (.ref o1), .val (.int (Int32.ofNat aa)), .val (.int (Int32.ofNat bb)), .val (.int (Int32.ofNat (own_g Lb aa))), .val (.int (Int32.ofNat (own_g Lb bb)))] [(.int (Int32.ofNat (own_g Lb bb))), (.int (3 : Int32)), (.ref o1)])) tz → Steps p.tables e below (Tj16.setTop (mkF m 49 #[.val (.ref o1), .val (.int (Int32.ofNat aa)), .val (.int (Int32.ofNat bb)), .val (.int (Int32.ofNat (own_g Lb aa))), .val (.int (Int32.ofNat (own_g Lb bb)))] [(.int (Int32.ofNat (own_g Lb aa))), (.int (Int32.ofNat (own_g (own_rs (own_g Lb aa) (own_g Lb bb) 2 (own_rs (own_g Lb aa) (own_g Lb bb) 1 (own_rs (own_g Lb aa) (own_g Lb bb) 0 Lb))) 3)))])) tz := by
            intro tz kz
            refine XS.icmpNo Xj16.here hx rfl (hb hby d9_49) rfl (teq hc49).2 ?_
            refine XS.aloadN Xj16.here hx rfl (hb hby d9_52) rfl rfl ?_
            refine XS.iconst Xj16.here hx rfl (hb hby d9_53) ?_
            refine XS.iload Xj16.here hx rfl (hb hby d9_54) rfl ?_
            exact kz
          refine OG.step s21 ?_
          have av22 := fj16_0
          obtain ⟨cl22, Ar22, qa_22, Sa_22, Nn_22, Ha_22, Ga_22⟩ := av22
          have hin22 : ¬ ((3 : Int32) < 0 ∨ cl22.slots.size ≤ ((3 : Int32)).toNatClampNeg) := inb_of Sa_22 ⟨(own_x4 (by decide : 3 < 4)).1, (own_x4 (by decide : 3 < 4)).2.1⟩
          obtain ⟨T23, h23, X23, e23, W23, st23⟩ := stI Xj16 hx hZ ej16 Ar22 (j := (3 : Int32)) hin22 (g := (mkF m 56 #[.val (.ref o1), .val (.int (Int32.ofNat aa)), .val (.int (Int32.ofNat bb)), .val (.int (Int32.ofNat (own_g Lb aa))), .val (.int (Int32.ofNat (own_g Lb bb)))] [(.int (Int32.ofNat (own_g Lb bb))), (.int (3 : Int32)), (.ref o1)])) rfl rfl (hb hby d9_56)
          refine OG.step st23 ?_
          have Va23 := Arv.set Ar22 qa_22 Sa_22 Nn_22 Ha_22 Ga_22 rfl W23 (3) (own_x4 (by decide : 3 < 4)).2.2 (own_len (own_rsg (own_rsg (own_rsg hrg (hrg.2 bb hb4)) (hrg.2 bb hb4)) (hrg.2 bb hb4)).1 (by decide : 3 < 4))
          have Va23 : Arv Z h23 o1 k1 .int (4 : Int32) ((own_vl (own_rs (own_g Lb aa) (own_g Lb bb) 2 (own_rs (own_g Lb aa) (own_g Lb bb) 1 (own_rs (own_g Lb aa) (own_g Lb bb) 0 Lb)))).set 3 (.int (Int32.ofNat (own_g Lb bb)))) (.int (0 : Int32)) := Va23
          have V23 : Arv Z h23 o1 k1 .int (4 : Int32) (own_vl ((own_rs (own_g Lb aa) (own_g Lb bb) 2 (own_rs (own_g Lb aa) (own_g Lb bb) 1 (own_rs (own_g Lb aa) (own_g Lb bb) 0 Lb))).set 3 (own_g Lb bb))) (.int (0 : Int32)) := by rw [own_set (own_rs (own_g Lb aa) (own_g Lb bb) 2 (own_rs (own_g Lb aa) (own_g Lb bb) 1 (own_rs (own_g Lb aa) (own_g Lb bb) 0 Lb))) 3 (own_g Lb bb)] at Va23; exact Va23
          have K23 := Kj16.wr W23 (Or.inl (List.mem_of_getElem? (i := 0) rfl))
          have N23 := Fr.snoc X23 Nj16 g_o1
          obtain ⟨Lz24, X23, N23⟩ : ∃ Lz, Stand p l e rom_9 s m #[(.ref o1), (.int (Int32.ofNat aa)), (.int (Int32.ofNat bb))] below meth c T23 Lz 0 0 ∧ Fr n0 Lz := ⟨_, X23, N23⟩
          show OG _ _ _ _ _ _ _ (T23.setTop (mkF m 57 #[.val (.ref o1), .val (.int (Int32.ofNat aa)), .val (.int (Int32.ofNat bb)), .val (.int (Int32.ofNat (own_g Lb aa))), .val (.int (Int32.ofNat (own_g Lb bb)))] []))
          have hq25 : (own_rs (own_g Lb aa) (own_g Lb bb) 3 (own_rs (own_g Lb aa) (own_g Lb bb) 2 (own_rs (own_g Lb aa) (own_g Lb bb) 1 (own_rs (own_g Lb aa) (own_g Lb bb) 0 Lb)))) = ((own_rs (own_g Lb aa) (own_g Lb bb) 2 (own_rs (own_g Lb aa) (own_g Lb bb) 1 (own_rs (own_g Lb aa) (own_g Lb bb) 0 Lb))).set 3 (own_g Lb bb)) := if_pos (own_e4 (own_rsg (own_rsg (own_rsg hrg (hrg.2 bb hb4)) (hrg.2 bb hb4)) (hrg.2 bb hb4)) (by decide) (hrg.2 aa ha4) hc49)
          have Vr25 : Arv Z h23 o1 k1 .int (4 : Int32) (own_vl (own_rs (own_g Lb aa) (own_g Lb bb) 3 (own_rs (own_g Lb aa) (own_g Lb bb) 2 (own_rs (own_g Lb aa) (own_g Lb bb) 1 (own_rs (own_g Lb aa) (own_g Lb bb) 0 Lb))))) (.int (0 : Int32)) := by rw [hq25]; exact V23
          exact J20 _ _ _ X23 e23 N23 K23 Vr25
        · have s26 : ∀ tz, Steps p.tables e below (Tj16.setTop (mkF m 57 #[.val (.ref o1), .val (.int (Int32.ofNat aa)), .val (.int (Int32.ofNat bb)), .val (.int (Int32.ofNat (own_g Lb aa))), .val (.int (Int32.ofNat (own_g Lb bb)))] [])) tz → Steps p.tables e below (Tj16.setTop (mkF m 49 #[.val (.ref o1), .val (.int (Int32.ofNat aa)), .val (.int (Int32.ofNat bb)), .val (.int (Int32.ofNat (own_g Lb aa))), .val (.int (Int32.ofNat (own_g Lb bb)))] [(.int (Int32.ofNat (own_g Lb aa))), (.int (Int32.ofNat (own_g (own_rs (own_g Lb aa) (own_g Lb bb) 2 (own_rs (own_g Lb aa) (own_g Lb bb) 1 (own_rs (own_g Lb aa) (own_g Lb bb) 0 Lb))) 3)))])) tz := by
            intro tz kz
            refine XS.icmpYes Xj16.here hx rfl (pc0 := 49) (pc' := 57) rfl (hb hby d9_49) rfl (feq hc49).2 (by decide) (by decide) ?_
            exact kz
          refine OG.step s26 ?_
          have hq27 : (own_rs (own_g Lb aa) (own_g Lb bb) 3 (own_rs (own_g Lb aa) (own_g Lb bb) 2 (own_rs (own_g Lb aa) (own_g Lb bb) 1 (own_rs (own_g Lb aa) (own_g Lb bb) 0 Lb)))) = (own_rs (own_g Lb aa) (own_g Lb bb) 2 (own_rs (own_g Lb aa) (own_g Lb bb) 1 (own_rs (own_g Lb aa) (own_g Lb bb) 0 Lb))) := if_neg (fun z => hc49 (congrArg Int32.ofNat z))
          have Vr27 : Arv Z Hj16 o1 k1 .int (4 : Int32) (own_vl (own_rs (own_g Lb aa) (own_g Lb bb) 3 (own_rs (own_g Lb aa) (own_g Lb bb) 2 (own_rs (own_g Lb aa) (own_g Lb bb) 1 (own_rs (own_g Lb aa) (own_g Lb bb) 0 Lb))))) (.int (0 : Int32)) := by rw [hq27]; exact fj16_0
          exact J20 _ _ _ Xj16 ej16 Nj16 Kj16 Vr27
      by_cases hc37 : (Int32.ofNat (own_g (own_rs (own_g Lb aa) (own_g Lb bb) 1 (own_rs (own_g Lb aa) (own_g Lb bb) 0 Lb)) 2)) = (Int32.ofNat (own_g Lb aa))
      · have s28 : ∀ tz, Steps p.tables e below (Tj12.setTop (mkF m 44 #[.val (.ref o1), .val (.int (Int32.ofNat aa)), .val (.int (Int32.ofNat bb)), .val (.int (Int32.ofNat (own_g Lb aa))), .val (.int (Int32.ofNat (own_g Lb bb)))] [(.int (Int32.ofNat (own_g Lb bb))), (.int (2 : Int32)), (.ref o1)])) tz → Steps p.tables e below (Tj12.setTop (mkF m 37 #[.val (.ref o1), .val (.int (Int32.ofNat aa)), .val (.int (Int32.ofNat bb)), .val (.int (Int32.ofNat (own_g Lb aa))), .val (.int (Int32.ofNat (own_g Lb bb)))] [(.int (Int32.ofNat (own_g Lb aa))), (.int (Int32.ofNat (own_g (own_rs (own_g Lb aa) (own_g Lb bb) 1 (own_rs (own_g Lb aa) (own_g Lb bb) 0 Lb)) 2)))])) tz := by
          intro tz kz
          refine XS.icmpNo Xj12.here hx rfl (hb hby d9_37) rfl (teq hc37).2 ?_
          refine XS.aloadN Xj12.here hx rfl (hb hby d9_40) rfl rfl ?_
          refine XS.iconst Xj12.here hx rfl (hb hby d9_41) ?_
          refine XS.iload Xj12.here hx rfl (hb hby d9_42) rfl ?_
          exact kz
        refine OG.step s28 ?_
        have av29 := fj12_0
        obtain ⟨cl29, Ar29, qa_29, Sa_29, Nn_29, Ha_29, Ga_29⟩ := av29
        have hin29 : ¬ ((2 : Int32) < 0 ∨ cl29.slots.size ≤ ((2 : Int32)).toNatClampNeg) := inb_of Sa_29 ⟨(own_x4 (by decide : 2 < 4)).1, (own_x4 (by decide : 2 < 4)).2.1⟩
        obtain ⟨T30, h30, X30, e30, W30, st30⟩ := stI Xj12 hx hZ ej12 Ar29 (j := (2 : Int32)) hin29 (g := (mkF m 44 #[.val (.ref o1), .val (.int (Int32.ofNat aa)), .val (.int (Int32.ofNat bb)), .val (.int (Int32.ofNat (own_g Lb aa))), .val (.int (Int32.ofNat (own_g Lb bb)))] [(.int (Int32.ofNat (own_g Lb bb))), (.int (2 : Int32)), (.ref o1)])) rfl rfl (hb hby d9_44)
        refine OG.step st30 ?_
        have Va30 := Arv.set Ar29 qa_29 Sa_29 Nn_29 Ha_29 Ga_29 rfl W30 (2) (own_x4 (by decide : 2 < 4)).2.2 (own_len (own_rsg (own_rsg hrg (hrg.2 bb hb4)) (hrg.2 bb hb4)).1 (by decide : 2 < 4))
        have Va30 : Arv Z h30 o1 k1 .int (4 : Int32) ((own_vl (own_rs (own_g Lb aa) (own_g Lb bb) 1 (own_rs (own_g Lb aa) (own_g Lb bb) 0 Lb))).set 2 (.int (Int32.ofNat (own_g Lb bb)))) (.int (0 : Int32)) := Va30
        have V30 : Arv Z h30 o1 k1 .int (4 : Int32) (own_vl ((own_rs (own_g Lb aa) (own_g Lb bb) 1 (own_rs (own_g Lb aa) (own_g Lb bb) 0 Lb)).set 2 (own_g Lb bb))) (.int (0 : Int32)) := by rw [own_set (own_rs (own_g Lb aa) (own_g Lb bb) 1 (own_rs (own_g Lb aa) (own_g Lb bb) 0 Lb)) 2 (own_g Lb bb)] at Va30; exact Va30
        have K30 := Kj12.wr W30 (Or.inl (List.mem_of_getElem? (i := 0) rfl))
        have N30 := Fr.snoc X30 Nj12 g_o1
        obtain ⟨Lz31, X30, N30⟩ : ∃ Lz, Stand p l e rom_9 s m #[(.ref o1), (.int (Int32.ofNat aa)), (.int (Int32.ofNat bb))] below meth c T30 Lz 0 0 ∧ Fr n0 Lz := ⟨_, X30, N30⟩
        show OG _ _ _ _ _ _ _ (T30.setTop (mkF m 45 #[.val (.ref o1), .val (.int (Int32.ofNat aa)), .val (.int (Int32.ofNat bb)), .val (.int (Int32.ofNat (own_g Lb aa))), .val (.int (Int32.ofNat (own_g Lb bb)))] []))
        have hq32 : (own_rs (own_g Lb aa) (own_g Lb bb) 2 (own_rs (own_g Lb aa) (own_g Lb bb) 1 (own_rs (own_g Lb aa) (own_g Lb bb) 0 Lb))) = ((own_rs (own_g Lb aa) (own_g Lb bb) 1 (own_rs (own_g Lb aa) (own_g Lb bb) 0 Lb)).set 2 (own_g Lb bb)) := if_pos (own_e4 (own_rsg (own_rsg hrg (hrg.2 bb hb4)) (hrg.2 bb hb4)) (by decide) (hrg.2 aa ha4) hc37)
        have Vr32 : Arv Z h30 o1 k1 .int (4 : Int32) (own_vl (own_rs (own_g Lb aa) (own_g Lb bb) 2 (own_rs (own_g Lb aa) (own_g Lb bb) 1 (own_rs (own_g Lb aa) (own_g Lb bb) 0 Lb)))) (.int (0 : Int32)) := by rw [hq32]; exact V30
        exact J16 _ _ _ X30 e30 N30 K30 Vr32
      · have s33 : ∀ tz, Steps p.tables e below (Tj12.setTop (mkF m 45 #[.val (.ref o1), .val (.int (Int32.ofNat aa)), .val (.int (Int32.ofNat bb)), .val (.int (Int32.ofNat (own_g Lb aa))), .val (.int (Int32.ofNat (own_g Lb bb)))] [])) tz → Steps p.tables e below (Tj12.setTop (mkF m 37 #[.val (.ref o1), .val (.int (Int32.ofNat aa)), .val (.int (Int32.ofNat bb)), .val (.int (Int32.ofNat (own_g Lb aa))), .val (.int (Int32.ofNat (own_g Lb bb)))] [(.int (Int32.ofNat (own_g Lb aa))), (.int (Int32.ofNat (own_g (own_rs (own_g Lb aa) (own_g Lb bb) 1 (own_rs (own_g Lb aa) (own_g Lb bb) 0 Lb)) 2)))])) tz := by
          intro tz kz
          refine XS.icmpYes Xj12.here hx rfl (pc0 := 37) (pc' := 45) rfl (hb hby d9_37) rfl (feq hc37).2 (by decide) (by decide) ?_
          exact kz
        refine OG.step s33 ?_
        have hq34 : (own_rs (own_g Lb aa) (own_g Lb bb) 2 (own_rs (own_g Lb aa) (own_g Lb bb) 1 (own_rs (own_g Lb aa) (own_g Lb bb) 0 Lb))) = (own_rs (own_g Lb aa) (own_g Lb bb) 1 (own_rs (own_g Lb aa) (own_g Lb bb) 0 Lb)) := if_neg (fun z => hc37 (congrArg Int32.ofNat z))
        have Vr34 : Arv Z Hj12 o1 k1 .int (4 : Int32) (own_vl (own_rs (own_g Lb aa) (own_g Lb bb) 2 (own_rs (own_g Lb aa) (own_g Lb bb) 1 (own_rs (own_g Lb aa) (own_g Lb bb) 0 Lb)))) (.int (0 : Int32)) := by rw [hq34]; exact fj12_0
        exact J16 _ _ _ Xj12 ej12 Nj12 Kj12 Vr34
    by_cases hc25 : (Int32.ofNat (own_g (own_rs (own_g Lb aa) (own_g Lb bb) 0 Lb) 1)) = (Int32.ofNat (own_g Lb aa))
    · have s35 : ∀ tz, Steps p.tables e below (Tj8.setTop (mkF m 32 #[.val (.ref o1), .val (.int (Int32.ofNat aa)), .val (.int (Int32.ofNat bb)), .val (.int (Int32.ofNat (own_g Lb aa))), .val (.int (Int32.ofNat (own_g Lb bb)))] [(.int (Int32.ofNat (own_g Lb bb))), (.int (1 : Int32)), (.ref o1)])) tz → Steps p.tables e below (Tj8.setTop (mkF m 25 #[.val (.ref o1), .val (.int (Int32.ofNat aa)), .val (.int (Int32.ofNat bb)), .val (.int (Int32.ofNat (own_g Lb aa))), .val (.int (Int32.ofNat (own_g Lb bb)))] [(.int (Int32.ofNat (own_g Lb aa))), (.int (Int32.ofNat (own_g (own_rs (own_g Lb aa) (own_g Lb bb) 0 Lb) 1)))])) tz := by
        intro tz kz
        refine XS.icmpNo Xj8.here hx rfl (hb hby d9_25) rfl (teq hc25).2 ?_
        refine XS.aloadN Xj8.here hx rfl (hb hby d9_28) rfl rfl ?_
        refine XS.iconst Xj8.here hx rfl (hb hby d9_29) ?_
        refine XS.iload Xj8.here hx rfl (hb hby d9_30) rfl ?_
        exact kz
      refine OG.step s35 ?_
      have av36 := fj8_0
      obtain ⟨cl36, Ar36, qa_36, Sa_36, Nn_36, Ha_36, Ga_36⟩ := av36
      have hin36 : ¬ ((1 : Int32) < 0 ∨ cl36.slots.size ≤ ((1 : Int32)).toNatClampNeg) := inb_of Sa_36 ⟨(own_x4 (by decide : 1 < 4)).1, (own_x4 (by decide : 1 < 4)).2.1⟩
      obtain ⟨T37, h37, X37, e37, W37, st37⟩ := stI Xj8 hx hZ ej8 Ar36 (j := (1 : Int32)) hin36 (g := (mkF m 32 #[.val (.ref o1), .val (.int (Int32.ofNat aa)), .val (.int (Int32.ofNat bb)), .val (.int (Int32.ofNat (own_g Lb aa))), .val (.int (Int32.ofNat (own_g Lb bb)))] [(.int (Int32.ofNat (own_g Lb bb))), (.int (1 : Int32)), (.ref o1)])) rfl rfl (hb hby d9_32)
      refine OG.step st37 ?_
      have Va37 := Arv.set Ar36 qa_36 Sa_36 Nn_36 Ha_36 Ga_36 rfl W37 (1) (own_x4 (by decide : 1 < 4)).2.2 (own_len (own_rsg hrg (hrg.2 bb hb4)).1 (by decide : 1 < 4))
      have Va37 : Arv Z h37 o1 k1 .int (4 : Int32) ((own_vl (own_rs (own_g Lb aa) (own_g Lb bb) 0 Lb)).set 1 (.int (Int32.ofNat (own_g Lb bb)))) (.int (0 : Int32)) := Va37
      have V37 : Arv Z h37 o1 k1 .int (4 : Int32) (own_vl ((own_rs (own_g Lb aa) (own_g Lb bb) 0 Lb).set 1 (own_g Lb bb))) (.int (0 : Int32)) := by rw [own_set (own_rs (own_g Lb aa) (own_g Lb bb) 0 Lb) 1 (own_g Lb bb)] at Va37; exact Va37
      have K37 := Kj8.wr W37 (Or.inl (List.mem_of_getElem? (i := 0) rfl))
      have N37 := Fr.snoc X37 Nj8 g_o1
      obtain ⟨Lz38, X37, N37⟩ : ∃ Lz, Stand p l e rom_9 s m #[(.ref o1), (.int (Int32.ofNat aa)), (.int (Int32.ofNat bb))] below meth c T37 Lz 0 0 ∧ Fr n0 Lz := ⟨_, X37, N37⟩
      show OG _ _ _ _ _ _ _ (T37.setTop (mkF m 33 #[.val (.ref o1), .val (.int (Int32.ofNat aa)), .val (.int (Int32.ofNat bb)), .val (.int (Int32.ofNat (own_g Lb aa))), .val (.int (Int32.ofNat (own_g Lb bb)))] []))
      have hq39 : (own_rs (own_g Lb aa) (own_g Lb bb) 1 (own_rs (own_g Lb aa) (own_g Lb bb) 0 Lb)) = ((own_rs (own_g Lb aa) (own_g Lb bb) 0 Lb).set 1 (own_g Lb bb)) := if_pos (own_e4 (own_rsg hrg (hrg.2 bb hb4)) (by decide) (hrg.2 aa ha4) hc25)
      have Vr39 : Arv Z h37 o1 k1 .int (4 : Int32) (own_vl (own_rs (own_g Lb aa) (own_g Lb bb) 1 (own_rs (own_g Lb aa) (own_g Lb bb) 0 Lb))) (.int (0 : Int32)) := by rw [hq39]; exact V37
      exact J12 _ _ _ X37 e37 N37 K37 Vr39
    · have s40 : ∀ tz, Steps p.tables e below (Tj8.setTop (mkF m 33 #[.val (.ref o1), .val (.int (Int32.ofNat aa)), .val (.int (Int32.ofNat bb)), .val (.int (Int32.ofNat (own_g Lb aa))), .val (.int (Int32.ofNat (own_g Lb bb)))] [])) tz → Steps p.tables e below (Tj8.setTop (mkF m 25 #[.val (.ref o1), .val (.int (Int32.ofNat aa)), .val (.int (Int32.ofNat bb)), .val (.int (Int32.ofNat (own_g Lb aa))), .val (.int (Int32.ofNat (own_g Lb bb)))] [(.int (Int32.ofNat (own_g Lb aa))), (.int (Int32.ofNat (own_g (own_rs (own_g Lb aa) (own_g Lb bb) 0 Lb) 1)))])) tz := by
        intro tz kz
        refine XS.icmpYes Xj8.here hx rfl (pc0 := 25) (pc' := 33) rfl (hb hby d9_25) rfl (feq hc25).2 (by decide) (by decide) ?_
        exact kz
      refine OG.step s40 ?_
      have hq41 : (own_rs (own_g Lb aa) (own_g Lb bb) 1 (own_rs (own_g Lb aa) (own_g Lb bb) 0 Lb)) = (own_rs (own_g Lb aa) (own_g Lb bb) 0 Lb) := if_neg (fun z => hc25 (congrArg Int32.ofNat z))
      have Vr41 : Arv Z Hj8 o1 k1 .int (4 : Int32) (own_vl (own_rs (own_g Lb aa) (own_g Lb bb) 1 (own_rs (own_g Lb aa) (own_g Lb bb) 0 Lb))) (.int (0 : Int32)) := by rw [hq41]; exact fj8_0
      exact J12 _ _ _ Xj8 ej8 Nj8 Kj8 Vr41
  by_cases hc13 : (Int32.ofNat (own_g Lb 0)) = (Int32.ofNat (own_g Lb aa))
  · have s42 : ∀ tz, Steps p.tables e below (s₁.setTop (mkF m 20 #[.val (.ref o1), .val (.int (Int32.ofNat aa)), .val (.int (Int32.ofNat bb)), .val (.int (Int32.ofNat (own_g Lb aa))), .val (.int (Int32.ofNat (own_g Lb bb)))] [(.int (Int32.ofNat (own_g Lb bb))), (.int (0 : Int32)), (.ref o1)])) tz → Steps p.tables e below (s₁.setTop (mkF m 13 #[.val (.ref o1), .val (.int (Int32.ofNat aa)), .val (.int (Int32.ofNat bb)), .val (.int (Int32.ofNat (own_g Lb aa))), .val (.int (Int32.ofNat (own_g Lb bb)))] [(.int (Int32.ofNat (own_g Lb aa))), (.int (Int32.ofNat (own_g Lb 0)))])) tz := by
      intro tz kz
      refine XS.icmpNo X0.here hx rfl (hb hby d9_13) rfl (teq hc13).2 ?_
      refine XS.aloadN X0.here hx rfl (hb hby d9_16) rfl rfl ?_
      refine XS.iconst X0.here hx rfl (hb hby d9_17) ?_
      refine XS.iload X0.here hx rfl (hb hby d9_18) rfl ?_
      exact kz
    refine OG.step s42 ?_
    have av43 := F0_o1
    obtain ⟨cl43, Ar43, qa_43, Sa_43, Nn_43, Ha_43, Ga_43⟩ := av43
    have hin43 : ¬ ((0 : Int32) < 0 ∨ cl43.slots.size ≤ ((0 : Int32)).toNatClampNeg) := inb_of Sa_43 ⟨(own_x4 (by decide : 0 < 4)).1, (own_x4 (by decide : 0 < 4)).2.1⟩
    obtain ⟨T44, h44, X44, e44, W44, st44⟩ := stI X0 hx hZ e0 Ar43 (j := (0 : Int32)) hin43 (g := (mkF m 20 #[.val (.ref o1), .val (.int (Int32.ofNat aa)), .val (.int (Int32.ofNat bb)), .val (.int (Int32.ofNat (own_g Lb aa))), .val (.int (Int32.ofNat (own_g Lb bb)))] [(.int (Int32.ofNat (own_g Lb bb))), (.int (0 : Int32)), (.ref o1)])) rfl rfl (hb hby d9_20)
    refine OG.step st44 ?_
    have Va44 := Arv.set Ar43 qa_43 Sa_43 Nn_43 Ha_43 Ga_43 rfl W44 (0) (own_x4 (by decide : 0 < 4)).2.2 (own_len hrg.1 (by decide : 0 < 4))
    have Va44 : Arv Z h44 o1 k1 .int (4 : Int32) ((own_vl Lb).set 0 (.int (Int32.ofNat (own_g Lb bb)))) (.int (0 : Int32)) := Va44
    have V44 : Arv Z h44 o1 k1 .int (4 : Int32) (own_vl (Lb.set 0 (own_g Lb bb))) (.int (0 : Int32)) := by rw [own_set Lb 0 (own_g Lb bb)] at Va44; exact Va44
    have K44 := K0.wr W44 (Or.inl (List.mem_of_getElem? (i := 0) rfl))
    have N44 := Fr.snoc X44 N0 g_o1
    obtain ⟨Lz45, X44, N44⟩ : ∃ Lz, Stand p l e rom_9 s m #[(.ref o1), (.int (Int32.ofNat aa)), (.int (Int32.ofNat bb))] below meth c T44 Lz 0 0 ∧ Fr n0 Lz := ⟨_, X44, N44⟩
    show OG _ _ _ _ _ _ _ (T44.setTop (mkF m 21 #[.val (.ref o1), .val (.int (Int32.ofNat aa)), .val (.int (Int32.ofNat bb)), .val (.int (Int32.ofNat (own_g Lb aa))), .val (.int (Int32.ofNat (own_g Lb bb)))] []))
    have hq46 : (own_rs (own_g Lb aa) (own_g Lb bb) 0 Lb) = (Lb.set 0 (own_g Lb bb)) := if_pos (own_e4 hrg (by decide) (hrg.2 aa ha4) hc13)
    have Vr46 : Arv Z h44 o1 k1 .int (4 : Int32) (own_vl (own_rs (own_g Lb aa) (own_g Lb bb) 0 Lb)) (.int (0 : Int32)) := by rw [hq46]; exact V44
    exact J8 _ _ _ X44 e44 N44 K44 Vr46
  · have s47 : ∀ tz, Steps p.tables e below (s₁.setTop (mkF m 21 #[.val (.ref o1), .val (.int (Int32.ofNat aa)), .val (.int (Int32.ofNat bb)), .val (.int (Int32.ofNat (own_g Lb aa))), .val (.int (Int32.ofNat (own_g Lb bb)))] [])) tz → Steps p.tables e below (s₁.setTop (mkF m 13 #[.val (.ref o1), .val (.int (Int32.ofNat aa)), .val (.int (Int32.ofNat bb)), .val (.int (Int32.ofNat (own_g Lb aa))), .val (.int (Int32.ofNat (own_g Lb bb)))] [(.int (Int32.ofNat (own_g Lb aa))), (.int (Int32.ofNat (own_g Lb 0)))])) tz := by
      intro tz kz
      refine XS.icmpYes X0.here hx rfl (pc0 := 13) (pc' := 21) rfl (hb hby d9_13) rfl (feq hc13).2 (by decide) (by decide) ?_
      exact kz
    refine OG.step s47 ?_
    have hq48 : (own_rs (own_g Lb aa) (own_g Lb bb) 0 Lb) = Lb := if_neg (fun z => hc13 (congrArg Int32.ofNat z))
    have Vr48 : Arv Z h0 o1 k1 .int (4 : Int32) (own_vl (own_rs (own_g Lb aa) (own_g Lb bb) 0 Lb)) (.int (0 : Int32)) := by rw [hq48]; exact F0_o1
    exact J8 _ _ _ X0 e0 N0 K0 Vr48
theorem d12_0 : decode method_4_code 0 = .ok (.aload_n 1, 1) := by decide +kernel
theorem d12_1 : decode method_4_code 1 = .ok (.iload_n 2, 1) := by decide +kernel
theorem d12_2 : decode method_4_code 2 = .ok (.iaload, 1) := by decide +kernel
theorem d12_3 : decode method_4_code 3 = .ok (.istore_n 3, 1) := by decide +kernel
theorem d12_4 : decode method_4_code 4 = .ok (.iload_n 3, 1) := by decide +kernel
theorem d12_5 : decode method_4_code 5 = .ok (.ifCond .lt 8, 3) := by decide +kernel
theorem d12_8 : decode method_4_code 8 = .ok (.iload_n 3, 1) := by decide +kernel
theorem d12_9 : decode method_4_code 9 = .ok (.iconst 3, 1) := by decide +kernel
theorem d12_10 : decode method_4_code 10 = .ok (.if_icmp .le 5, 3) := by decide +kernel
theorem d12_13 : decode method_4_code 13 = .ok (.iconst 0, 1) := by decide +kernel
theorem d12_14 : decode method_4_code 14 = .ok (.ireturn, 1) := by decide +kernel
theorem d12_15 : decode method_4_code 15 = .ok (.aload_n 0, 1) := by decide +kernel
theorem d12_16 : decode method_4_code 16 = .ok (.iload_n 3, 1) := by decide +kernel
theorem d12_17 : decode method_4_code 17 = .ok (.iaload, 1) := by decide +kernel
theorem d12_18 : decode method_4_code 18 = .ok (.aload_n 0, 1) := by decide +kernel
theorem d12_19 : decode method_4_code 19 = .ok (.iload_n 2, 1) := by decide +kernel
theorem d12_20 : decode method_4_code 20 = .ok (.iaload, 1) := by decide +kernel
theorem d12_21 : decode method_4_code 21 = .ok (.if_icmp .ne 7, 3) := by decide +kernel
theorem d12_24 : decode method_4_code 24 = .ok (.iconst 1, 1) := by decide +kernel
theorem d12_25 : decode method_4_code 25 = .ok (.goto 4, 3) := by decide +kernel
theorem d12_28 : decode method_4_code 28 = .ok (.iconst 0, 1) := by decide +kernel
theorem d12_29 : decode method_4_code 29 = .ok (.ireturn, 1) := by decide +kernel
theorem ef_12 (m : MethodId) (x0 : Addr) (x1 : Addr) (x2 : Int32) : entryFrame m #[(.ref x0), (.ref x1), (.int x2)] 4 = mkF m 0 #[.val (.ref x0), .val (.ref x1), .val (.int x2), .unset] [] := by first | (simp [entryFrame, mkF, argsToLocals, Value.category]; done) | rfl
def Q12 (Z : State) (o1 : Addr) (o2 : Addr) (ii : Nat) (k1 : ClassId) (k2 : ClassId) (Lb : List Nat) (Rr : List Nat) (h0 : Heap) (n0 : Nat) (v : Option Value) (h : Heap) (L : List Loc) : Prop := (v = some (.int (bI (own_g Lb (own_g Rr ii) = own_g Lb ii)))) ∧ (Fr n0 L) ∧ (h = h0)
abbrev rom_12 : Room := { frames := 0, cells := 0, slots := 0, locals := 0 }
set_option maxRecDepth 65536 in
set_option maxHeartbeats 40000000 in
theorem rm12 (l : Launch) (Z : State) (a0 : Array Value) (hw : ∀ d ∈ tables_1, d.before a0 Z = true) (ws : List Jvm.Cond) (o1 : Addr) (o2 : Addr) (ii : Nat) (k1 : ClassId) (k2 : ClassId) (Lb : List Nat) (Rr : List Nat) (h0 : Heap) (n0 : Nat) (Z0 : n0 ≤ h0.size) (F0_o1 : Arv Z h0 o1 k1 .int (4 : Int32) (own_vl Lb) (.int (0 : Int32))) (F1_o2 : Arv Z h0 o2 k2 .int (4 : Int32) (own_vl Rr) (.int (0 : Int32))) (hl : own_rg Lb) (hrr : own_rg Rr) (hi4 : ii < 4) :
    MetFree l (⟨"com/example/tidegraph/tidegraph/amd64/LiveRangesFindPinLaw", "member", "([I[II)Z"⟩ : MethodName) (head1 (Jvm.Cond.code (⟨"com/example/tidegraph/tidegraph/amd64/LiveRangesFindPinLaw", "member", "([I[II)Z"⟩ : MethodName) method_4_code 4 (some .boolean) :: ws) rom_12) (fun a U => a = #[(.ref o1), (.ref o2), (.int (Int32.ofNat ii))] ∧ Z.Warmed39 U.vm ∧ U.heap = h0) (fun _ _ _ _ _ => True) (fun _ U o U' => ∃ v L, o = .returned v ∧ Q12 Z o1 o2 ii k1 k2 Lb Rr h0 n0 v U'.heap L ∧ FrameEnd U o U' L rom_12.cells rom_12.slots) := by
  refine MetFree.of_bodySF (plainFor_of_name pn_com_example_tidegraph_tidegraph_amd64_LiveRangesFindPinLaw) hisR ?_
  intro p e s m args below meth c s₁ Bd hml0 hP hK
  obtain ⟨rfl, hZ, hh⟩ := hP
  have hx := Bd.exec
  have hby := Bd.bytes
  have hlk := Bd.notSynchronized
  have hml : c.maxLocals = 4 := hml0
  have hown : s.vm.findClass "com/example/tidegraph/tidegraph/amd64/LiveRangesFindPinLaw" = some m.cls := findClass_of_methodNamed Bd.named
  have hnm := (name_of_methodNamed Bd.named Bd.method).1
  have X0 : Stand p l e rom_12 s m #[(.ref o1), (.ref o2), (.int (Int32.ofNat ii))] below meth c s₁ [] 0 0 := Stand.of_body Bd
  have e0 : s₁.heap = h0 := by rw [← hh, Bd.state]; rfl
  have N0 := Fr.nil n0
  have K0 : Keep h0 h0 [] := Keep.refl _ _
  refine (?_ : OG p e below s (Q12 Z o1 o2 ii k1 k2 Lb Rr h0 n0) rom_12.cells rom_12.slots _)
  rw [ef_12]
  have s1 : ∀ tz, Steps p.tables e below (s₁.setTop (mkF m 2 #[.val (.ref o1), .val (.ref o2), .val (.int (Int32.ofNat ii)), .unset] [(.int (Int32.ofNat ii)), (.ref o2)])) tz → Steps p.tables e below (s₁.setTop (mkF m 0 #[.val (.ref o1), .val (.ref o2), .val (.int (Int32.ofNat ii)), .unset] [])) tz := by
    intro tz kz
    refine XS.aloadN X0.here hx rfl (hb hby d12_0) rfl rfl ?_
    refine XS.iloadN X0.here hx rfl (hb hby d12_1) rfl ?_
    exact kz
  refine OG.step s1 ?_
  have av2 := F1_o2
  obtain ⟨cl2, Ar2, qa_2, Sa_2, Nn_2, Ha_2, Ga_2⟩ := av2
  have hin2 : ¬ ((Int32.ofNat ii) < 0 ∨ cl2.slots.size ≤ ((Int32.ofNat ii)).toNatClampNeg) := inb_of Sa_2 ⟨(own_x4 hi4).1, (own_x4 hi4).2.1⟩
  have hat2 : cl2.slots[((Int32.ofNat ii)).toNatClampNeg]? = some (.int (Int32.ofNat (own_g Rr ii))) := Ha_2.at hin2 (own_get hrr.1 hi4)
  refine OG.step (X0.iaload hx (j := (Int32.ofNat ii)) (v := (.int (Int32.ofNat (own_g Rr ii)))) (by rw [e0]; exact Ar2.1) (State.isArrayOf_alike hZ.alike Ar2.2.1) Ar2.2.2 hin2 hat2 (g := (mkF m 2 #[.val (.ref o1), .val (.ref o2), .val (.int (Int32.ofNat ii)), .unset] [(.int (Int32.ofNat ii)), (.ref o2)])) rfl rfl (hb hby d12_2)) ?_
  show OG _ _ _ _ _ _ _ (s₁.setTop (mkF m 3 #[.val (.ref o1), .val (.ref o2), .val (.int (Int32.ofNat ii)), .unset] [(.int (Int32.ofNat (own_g Rr ii)))]))
  have s3 : ∀ tz, Steps p.tables e below (s₁.setTop (mkF m 17 #[.val (.ref o1), .val (.ref o2), .val (.int (Int32.ofNat ii)), .val (.int (Int32.ofNat (own_g Rr ii)))] [(.int (Int32.ofNat (own_g Rr ii))), (.ref o1)])) tz → Steps p.tables e below (s₁.setTop (mkF m 3 #[.val (.ref o1), .val (.ref o2), .val (.int (Int32.ofNat ii)), .unset] [(.int (Int32.ofNat (own_g Rr ii)))])) tz := by
    intro tz kz
    refine XS.istoreN X0.here hx rfl (hb hby d12_3) rfl (l' := #[.val (.ref o1), .val (.ref o2), .val (.int (Int32.ofNat ii)), .val (.int (Int32.ofNat (own_g Rr ii)))]) rfl ?_
    refine XS.iloadN X0.here hx rfl (hb hby d12_4) rfl ?_
    refine XS.ifNo X0.here hx rfl (hb hby d12_5) rfl ((if0 _ _).trans (flt (own_x4 (hrr.2 _ hi4)).1).1) ?_
    refine XS.iloadN X0.here hx rfl (hb hby d12_8) rfl ?_
    refine XS.iconst X0.here hx rfl (hb hby d12_9) ?_
    show Steps p.tables e below (s₁.setTop (mkF m 10 #[.val (.ref o1), .val (.ref o2), .val (.int (Int32.ofNat ii)), .val (.int (Int32.ofNat (own_g Rr ii)))] [(.int (3 : Int32)), (.int (Int32.ofNat (own_g Rr ii)))])) _
    refine XS.icmpYes X0.here hx rfl (pc0 := 10) (pc' := 15) rfl (hb hby d12_10) rfl (flt (mt (own_lt (a := 3) (by decide) (by have := hrr.2 _ hi4; omega)).mp (by have := hrr.2 _ hi4; omega))).2.2.2 (by decide) (by decide) ?_
    refine XS.aloadN X0.here hx rfl (hb hby d12_15) rfl rfl ?_
    refine XS.iloadN X0.here hx rfl (hb hby d12_16) rfl ?_
    exact kz
  refine OG.step s3 ?_
  have av4 := F0_o1
  obtain ⟨cl4, Ar4, qa_4, Sa_4, Nn_4, Ha_4, Ga_4⟩ := av4
  have hin4 : ¬ ((Int32.ofNat (own_g Rr ii)) < 0 ∨ cl4.slots.size ≤ ((Int32.ofNat (own_g Rr ii))).toNatClampNeg) := inb_of Sa_4 ⟨(own_x4 (hrr.2 _ hi4)).1, (own_x4 (hrr.2 _ hi4)).2.1⟩
  have hat4 : cl4.slots[((Int32.ofNat (own_g Rr ii))).toNatClampNeg]? = some (.int (Int32.ofNat (own_g Lb (own_g Rr ii)))) := Ha_4.at hin4 (own_get hl.1 (hrr.2 _ hi4))
  refine OG.step (X0.iaload hx (j := (Int32.ofNat (own_g Rr ii))) (v := (.int (Int32.ofNat (own_g Lb (own_g Rr ii))))) (by rw [e0]; exact Ar4.1) (State.isArrayOf_alike hZ.alike Ar4.2.1) Ar4.2.2 hin4 hat4 (g := (mkF m 17 #[.val (.ref o1), .val (.ref o2), .val (.int (Int32.ofNat ii)), .val (.int (Int32.ofNat (own_g Rr ii)))] [(.int (Int32.ofNat (own_g Rr ii))), (.ref o1)])) rfl rfl (hb hby d12_17)) ?_
  show OG _ _ _ _ _ _ _ (s₁.setTop (mkF m 18 #[.val (.ref o1), .val (.ref o2), .val (.int (Int32.ofNat ii)), .val (.int (Int32.ofNat (own_g Rr ii)))] [(.int (Int32.ofNat (own_g Lb (own_g Rr ii))))]))
  have s5 : ∀ tz, Steps p.tables e below (s₁.setTop (mkF m 20 #[.val (.ref o1), .val (.ref o2), .val (.int (Int32.ofNat ii)), .val (.int (Int32.ofNat (own_g Rr ii)))] [(.int (Int32.ofNat ii)), (.ref o1), (.int (Int32.ofNat (own_g Lb (own_g Rr ii))))])) tz → Steps p.tables e below (s₁.setTop (mkF m 18 #[.val (.ref o1), .val (.ref o2), .val (.int (Int32.ofNat ii)), .val (.int (Int32.ofNat (own_g Rr ii)))] [(.int (Int32.ofNat (own_g Lb (own_g Rr ii))))])) tz := by
    intro tz kz
    refine XS.aloadN X0.here hx rfl (hb hby d12_18) rfl rfl ?_
    refine XS.iloadN X0.here hx rfl (hb hby d12_19) rfl ?_
    exact kz
  refine OG.step s5 ?_
  have av6 := F0_o1
  obtain ⟨cl6, Ar6, qa_6, Sa_6, Nn_6, Ha_6, Ga_6⟩ := av6
  have hin6 : ¬ ((Int32.ofNat ii) < 0 ∨ cl6.slots.size ≤ ((Int32.ofNat ii)).toNatClampNeg) := inb_of Sa_6 ⟨(own_x4 hi4).1, (own_x4 hi4).2.1⟩
  have hat6 : cl6.slots[((Int32.ofNat ii)).toNatClampNeg]? = some (.int (Int32.ofNat (own_g Lb ii))) := Ha_6.at hin6 (own_get hl.1 hi4)
  refine OG.step (X0.iaload hx (j := (Int32.ofNat ii)) (v := (.int (Int32.ofNat (own_g Lb ii)))) (by rw [e0]; exact Ar6.1) (State.isArrayOf_alike hZ.alike Ar6.2.1) Ar6.2.2 hin6 hat6 (g := (mkF m 20 #[.val (.ref o1), .val (.ref o2), .val (.int (Int32.ofNat ii)), .val (.int (Int32.ofNat (own_g Rr ii)))] [(.int (Int32.ofNat ii)), (.ref o1), (.int (Int32.ofNat (own_g Lb (own_g Rr ii))))])) rfl rfl (hb hby d12_20)) ?_
  show OG _ _ _ _ _ _ _ (s₁.setTop (mkF m 21 #[.val (.ref o1), .val (.ref o2), .val (.int (Int32.ofNat ii)), .val (.int (Int32.ofNat (own_g Rr ii)))] [(.int (Int32.ofNat (own_g Lb ii))), (.int (Int32.ofNat (own_g Lb (own_g Rr ii))))]))
  have s7 : ∀ tz, Steps p.tables e below (s₁.setTop (mkF m 29 #[.val (.ref o1), .val (.ref o2), .val (.int (Int32.ofNat ii)), .val (.int (Int32.ofNat (own_g Rr ii)))] [(.int (bI ((Int32.ofNat (own_g Lb (own_g Rr ii))) = (Int32.ofNat (own_g Lb ii)))))])) tz → Steps p.tables e below (s₁.setTop (mkF m 21 #[.val (.ref o1), .val (.ref o2), .val (.int (Int32.ofNat ii)), .val (.int (Int32.ofNat (own_g Rr ii)))] [(.int (Int32.ofNat (own_g Lb ii))), (.int (Int32.ofNat (own_g Lb (own_g Rr ii))))])) tz := by
    intro tz kz
    by_cases hm21 : (Int32.ofNat (own_g Lb (own_g Rr ii))) = (Int32.ofNat (own_g Lb ii))
    · refine XS.icmpNo X0.here hx rfl (hb hby d12_21) rfl (teq hm21).2 ?_
      show Steps p.tables e below (s₁.setTop (mkF m 24 #[.val (.ref o1), .val (.ref o2), .val (.int (Int32.ofNat ii)), .val (.int (Int32.ofNat (own_g Rr ii)))] [])) _
      refine XS.iconst X0.here hx rfl (hb hby d12_24) ?_
      show Steps p.tables e below (s₁.setTop (mkF m 25 #[.val (.ref o1), .val (.ref o2), .val (.int (Int32.ofNat ii)), .val (.int (Int32.ofNat (own_g Rr ii)))] [(.int (1 : Int32))])) _
      refine XS.goto X0.here hx rfl (pc0 := 25) (pc' := 29) rfl (hb hby d12_25) (by decide) (by decide) ?_
      show Steps p.tables e below (s₁.setTop (mkF m 29 #[.val (.ref o1), .val (.ref o2), .val (.int (Int32.ofNat ii)), .val (.int (Int32.ofNat (own_g Rr ii)))] [(.int (1 : Int32))])) _
      rw [show (bI ((Int32.ofNat (own_g Lb (own_g Rr ii))) = (Int32.ofNat (own_g Lb ii)))) = (1 : Int32) from bI_pos (P := (Int32.ofNat (own_g Lb (own_g Rr ii))) = (Int32.ofNat (own_g Lb ii))) hm21] at kz
      exact kz
    · refine XS.icmpYes X0.here hx rfl (pc0 := 21) (pc' := 28) rfl (hb hby d12_21) rfl (feq hm21).2 (by decide) (by decide) ?_
      show Steps p.tables e below (s₁.setTop (mkF m 28 #[.val (.ref o1), .val (.ref o2), .val (.int (Int32.ofNat ii)), .val (.int (Int32.ofNat (own_g Rr ii)))] [])) _
      refine XS.iconst X0.here hx rfl (hb hby d12_28) ?_
      show Steps p.tables e below (s₁.setTop (mkF m 29 #[.val (.ref o1), .val (.ref o2), .val (.int (Int32.ofNat ii)), .val (.int (Int32.ofNat (own_g Rr ii)))] [(.int (0 : Int32))])) _
      rw [show (bI ((Int32.ofNat (own_g Lb (own_g Rr ii))) = (Int32.ofNat (own_g Lb ii)))) = (0 : Int32) from bI_neg (P := (Int32.ofNat (own_g Lb (own_g Rr ii))) = (Int32.ofNat (own_g Lb ii))) hm21] at kz
      exact kz
  refine OG.step s7 ?_
  exact OG.retZ X0 hx hlk Bd.returns (hb hby d12_29) (nar_bI _) e0 ⟨(congrArg some (congrArg Value.int (bI_iff.mpr ⟨own_eqn (by have := hl.2 _ (hrr.2 _ hi4); omega) (by have := hl.2 _ hi4; omega), congrArg Int32.ofNat⟩))), N0, rfl⟩ (by decide) (by decide)
theorem d13_0 : decode method_5_code 0 = .ok (.aload_n 1, 1) := by decide +kernel
theorem d13_1 : decode method_5_code 1 = .ok (.iload_n 2, 1) := by decide +kernel
theorem d13_2 : decode method_5_code 2 = .ok (.iaload, 1) := by decide +kernel
theorem d13_3 : decode method_5_code 3 = .ok (.aload_n 1, 1) := by decide +kernel
theorem d13_4 : decode method_5_code 4 = .ok (.iload_n 3, 1) := by decide +kernel
theorem d13_5 : decode method_5_code 5 = .ok (.iaload, 1) := by decide +kernel
theorem d13_6 : decode method_5_code 6 = .ok (.if_icmp .ne 7, 3) := by decide +kernel
theorem d13_9 : decode method_5_code 9 = .ok (.iconst 1, 1) := by decide +kernel
theorem d13_10 : decode method_5_code 10 = .ok (.goto 4, 3) := by decide +kernel
theorem d13_13 : decode method_5_code 13 = .ok (.iconst 0, 1) := by decide +kernel
theorem d13_14 : decode method_5_code 14 = .ok (.aload_n 0, 1) := by decide +kernel
theorem d13_15 : decode method_5_code 15 = .ok (.iload_n 2, 1) := by decide +kernel
theorem d13_16 : decode method_5_code 16 = .ok (.iaload, 1) := by decide +kernel
theorem d13_17 : decode method_5_code 17 = .ok (.aload_n 0, 1) := by decide +kernel
theorem d13_18 : decode method_5_code 18 = .ok (.iload_n 3, 1) := by decide +kernel
theorem d13_19 : decode method_5_code 19 = .ok (.iaload, 1) := by decide +kernel
theorem d13_20 : decode method_5_code 20 = .ok (.if_icmp .ne 7, 3) := by decide +kernel
theorem d13_23 : decode method_5_code 23 = .ok (.iconst 1, 1) := by decide +kernel
theorem d13_24 : decode method_5_code 24 = .ok (.goto 4, 3) := by decide +kernel
theorem d13_27 : decode method_5_code 27 = .ok (.iconst 0, 1) := by decide +kernel
theorem d13_28 : decode method_5_code 28 = .ok (.if_icmp .ne 7, 3) := by decide +kernel
theorem d13_31 : decode method_5_code 31 = .ok (.iconst 1, 1) := by decide +kernel
theorem d13_32 : decode method_5_code 32 = .ok (.goto 4, 3) := by decide +kernel
theorem d13_35 : decode method_5_code 35 = .ok (.iconst 0, 1) := by decide +kernel
theorem d13_36 : decode method_5_code 36 = .ok (.ireturn, 1) := by decide +kernel
theorem ef_13 (m : MethodId) (x0 : Addr) (x1 : Addr) (x2 : Int32) (x3 : Int32) : entryFrame m #[(.ref x0), (.ref x1), (.int x2), (.int x3)] 4 = mkF m 0 #[.val (.ref x0), .val (.ref x1), .val (.int x2), .val (.int x3)] [] := by first | (simp [entryFrame, mkF, argsToLocals, Value.category]; done) | rfl
def Q13 (Z : State) (o1 : Addr) (o2 : Addr) (ii : Nat) (jj : Nat) (k1 : ClassId) (k2 : ClassId) (Lb : List Nat) (Rr : List Nat) (h0 : Heap) (n0 : Nat) (v : Option Value) (h : Heap) (L : List Loc) : Prop := (v = some (.int (bI ((own_g Rr ii = own_g Rr jj) ↔ (own_g Lb ii = own_g Lb jj))))) ∧ (Fr n0 L) ∧ (h = h0)
abbrev rom_13 : Room := { frames := 0, cells := 0, slots := 0, locals := 0 }
set_option maxRecDepth 65536 in
set_option maxHeartbeats 40000000 in
theorem rm13 (l : Launch) (Z : State) (a0 : Array Value) (hw : ∀ d ∈ tables_1, d.before a0 Z = true) (ws : List Jvm.Cond) (o1 : Addr) (o2 : Addr) (ii : Nat) (jj : Nat) (k1 : ClassId) (k2 : ClassId) (Lb : List Nat) (Rr : List Nat) (h0 : Heap) (n0 : Nat) (Z0 : n0 ≤ h0.size) (F0_o1 : Arv Z h0 o1 k1 .int (4 : Int32) (own_vl Lb) (.int (0 : Int32))) (F1_o2 : Arv Z h0 o2 k2 .int (4 : Int32) (own_vl Rr) (.int (0 : Int32))) (hl : own_rg Lb) (hrr : own_rg Rr) (hi4 : ii < 4) (hj4 : jj < 4) :
    MetFree l (⟨"com/example/tidegraph/tidegraph/amd64/LiveRangesFindPinLaw", "same", "([I[III)Z"⟩ : MethodName) (head1 (Jvm.Cond.code (⟨"com/example/tidegraph/tidegraph/amd64/LiveRangesFindPinLaw", "same", "([I[III)Z"⟩ : MethodName) method_5_code 4 (some .boolean) :: ws) rom_13) (fun a U => a = #[(.ref o1), (.ref o2), (.int (Int32.ofNat ii)), (.int (Int32.ofNat jj))] ∧ Z.Warmed39 U.vm ∧ U.heap = h0) (fun _ _ _ _ _ => True) (fun _ U o U' => ∃ v L, o = .returned v ∧ Q13 Z o1 o2 ii jj k1 k2 Lb Rr h0 n0 v U'.heap L ∧ FrameEnd U o U' L rom_13.cells rom_13.slots) := by
  refine MetFree.of_bodySF (plainFor_of_name pn_com_example_tidegraph_tidegraph_amd64_LiveRangesFindPinLaw) hisR ?_
  intro p e s m args below meth c s₁ Bd hml0 hP hK
  obtain ⟨rfl, hZ, hh⟩ := hP
  have hx := Bd.exec
  have hby := Bd.bytes
  have hlk := Bd.notSynchronized
  have hml : c.maxLocals = 4 := hml0
  have hown : s.vm.findClass "com/example/tidegraph/tidegraph/amd64/LiveRangesFindPinLaw" = some m.cls := findClass_of_methodNamed Bd.named
  have hnm := (name_of_methodNamed Bd.named Bd.method).1
  have X0 : Stand p l e rom_13 s m #[(.ref o1), (.ref o2), (.int (Int32.ofNat ii)), (.int (Int32.ofNat jj))] below meth c s₁ [] 0 0 := Stand.of_body Bd
  have e0 : s₁.heap = h0 := by rw [← hh, Bd.state]; rfl
  have N0 := Fr.nil n0
  have K0 : Keep h0 h0 [] := Keep.refl _ _
  refine (?_ : OG p e below s (Q13 Z o1 o2 ii jj k1 k2 Lb Rr h0 n0) rom_13.cells rom_13.slots _)
  rw [ef_13]
  have s1 : ∀ tz, Steps p.tables e below (s₁.setTop (mkF m 2 #[.val (.ref o1), .val (.ref o2), .val (.int (Int32.ofNat ii)), .val (.int (Int32.ofNat jj))] [(.int (Int32.ofNat ii)), (.ref o2)])) tz → Steps p.tables e below (s₁.setTop (mkF m 0 #[.val (.ref o1), .val (.ref o2), .val (.int (Int32.ofNat ii)), .val (.int (Int32.ofNat jj))] [])) tz := by
    intro tz kz
    refine XS.aloadN X0.here hx rfl (hb hby d13_0) rfl rfl ?_
    refine XS.iloadN X0.here hx rfl (hb hby d13_1) rfl ?_
    exact kz
  refine OG.step s1 ?_
  have av2 := F1_o2
  obtain ⟨cl2, Ar2, qa_2, Sa_2, Nn_2, Ha_2, Ga_2⟩ := av2
  have hin2 : ¬ ((Int32.ofNat ii) < 0 ∨ cl2.slots.size ≤ ((Int32.ofNat ii)).toNatClampNeg) := inb_of Sa_2 ⟨(own_x4 hi4).1, (own_x4 hi4).2.1⟩
  have hat2 : cl2.slots[((Int32.ofNat ii)).toNatClampNeg]? = some (.int (Int32.ofNat (own_g Rr ii))) := Ha_2.at hin2 (own_get hrr.1 hi4)
  refine OG.step (X0.iaload hx (j := (Int32.ofNat ii)) (v := (.int (Int32.ofNat (own_g Rr ii)))) (by rw [e0]; exact Ar2.1) (State.isArrayOf_alike hZ.alike Ar2.2.1) Ar2.2.2 hin2 hat2 (g := (mkF m 2 #[.val (.ref o1), .val (.ref o2), .val (.int (Int32.ofNat ii)), .val (.int (Int32.ofNat jj))] [(.int (Int32.ofNat ii)), (.ref o2)])) rfl rfl (hb hby d13_2)) ?_
  show OG _ _ _ _ _ _ _ (s₁.setTop (mkF m 3 #[.val (.ref o1), .val (.ref o2), .val (.int (Int32.ofNat ii)), .val (.int (Int32.ofNat jj))] [(.int (Int32.ofNat (own_g Rr ii)))]))
  have s3 : ∀ tz, Steps p.tables e below (s₁.setTop (mkF m 5 #[.val (.ref o1), .val (.ref o2), .val (.int (Int32.ofNat ii)), .val (.int (Int32.ofNat jj))] [(.int (Int32.ofNat jj)), (.ref o2), (.int (Int32.ofNat (own_g Rr ii)))])) tz → Steps p.tables e below (s₁.setTop (mkF m 3 #[.val (.ref o1), .val (.ref o2), .val (.int (Int32.ofNat ii)), .val (.int (Int32.ofNat jj))] [(.int (Int32.ofNat (own_g Rr ii)))])) tz := by
    intro tz kz
    refine XS.aloadN X0.here hx rfl (hb hby d13_3) rfl rfl ?_
    refine XS.iloadN X0.here hx rfl (hb hby d13_4) rfl ?_
    exact kz
  refine OG.step s3 ?_
  have av4 := F1_o2
  obtain ⟨cl4, Ar4, qa_4, Sa_4, Nn_4, Ha_4, Ga_4⟩ := av4
  have hin4 : ¬ ((Int32.ofNat jj) < 0 ∨ cl4.slots.size ≤ ((Int32.ofNat jj)).toNatClampNeg) := inb_of Sa_4 ⟨(own_x4 hj4).1, (own_x4 hj4).2.1⟩
  have hat4 : cl4.slots[((Int32.ofNat jj)).toNatClampNeg]? = some (.int (Int32.ofNat (own_g Rr jj))) := Ha_4.at hin4 (own_get hrr.1 hj4)
  refine OG.step (X0.iaload hx (j := (Int32.ofNat jj)) (v := (.int (Int32.ofNat (own_g Rr jj)))) (by rw [e0]; exact Ar4.1) (State.isArrayOf_alike hZ.alike Ar4.2.1) Ar4.2.2 hin4 hat4 (g := (mkF m 5 #[.val (.ref o1), .val (.ref o2), .val (.int (Int32.ofNat ii)), .val (.int (Int32.ofNat jj))] [(.int (Int32.ofNat jj)), (.ref o2), (.int (Int32.ofNat (own_g Rr ii)))])) rfl rfl (hb hby d13_5)) ?_
  show OG _ _ _ _ _ _ _ (s₁.setTop (mkF m 6 #[.val (.ref o1), .val (.ref o2), .val (.int (Int32.ofNat ii)), .val (.int (Int32.ofNat jj))] [(.int (Int32.ofNat (own_g Rr jj))), (.int (Int32.ofNat (own_g Rr ii)))]))
  have s5 : ∀ tz, Steps p.tables e below (s₁.setTop (mkF m 14 #[.val (.ref o1), .val (.ref o2), .val (.int (Int32.ofNat ii)), .val (.int (Int32.ofNat jj))] [(.int (bI ((Int32.ofNat (own_g Rr ii)) = (Int32.ofNat (own_g Rr jj)))))])) tz → Steps p.tables e below (s₁.setTop (mkF m 6 #[.val (.ref o1), .val (.ref o2), .val (.int (Int32.ofNat ii)), .val (.int (Int32.ofNat jj))] [(.int (Int32.ofNat (own_g Rr jj))), (.int (Int32.ofNat (own_g Rr ii)))])) tz := by
    intro tz kz
    by_cases hm6 : (Int32.ofNat (own_g Rr ii)) = (Int32.ofNat (own_g Rr jj))
    · refine XS.icmpNo X0.here hx rfl (hb hby d13_6) rfl (teq hm6).2 ?_
      show Steps p.tables e below (s₁.setTop (mkF m 9 #[.val (.ref o1), .val (.ref o2), .val (.int (Int32.ofNat ii)), .val (.int (Int32.ofNat jj))] [])) _
      refine XS.iconst X0.here hx rfl (hb hby d13_9) ?_
      show Steps p.tables e below (s₁.setTop (mkF m 10 #[.val (.ref o1), .val (.ref o2), .val (.int (Int32.ofNat ii)), .val (.int (Int32.ofNat jj))] [(.int (1 : Int32))])) _
      refine XS.goto X0.here hx rfl (pc0 := 10) (pc' := 14) rfl (hb hby d13_10) (by decide) (by decide) ?_
      show Steps p.tables e below (s₁.setTop (mkF m 14 #[.val (.ref o1), .val (.ref o2), .val (.int (Int32.ofNat ii)), .val (.int (Int32.ofNat jj))] [(.int (1 : Int32))])) _
      rw [show (bI ((Int32.ofNat (own_g Rr ii)) = (Int32.ofNat (own_g Rr jj)))) = (1 : Int32) from bI_pos (P := (Int32.ofNat (own_g Rr ii)) = (Int32.ofNat (own_g Rr jj))) hm6] at kz
      exact kz
    · refine XS.icmpYes X0.here hx rfl (pc0 := 6) (pc' := 13) rfl (hb hby d13_6) rfl (feq hm6).2 (by decide) (by decide) ?_
      show Steps p.tables e below (s₁.setTop (mkF m 13 #[.val (.ref o1), .val (.ref o2), .val (.int (Int32.ofNat ii)), .val (.int (Int32.ofNat jj))] [])) _
      refine XS.iconst X0.here hx rfl (hb hby d13_13) ?_
      show Steps p.tables e below (s₁.setTop (mkF m 14 #[.val (.ref o1), .val (.ref o2), .val (.int (Int32.ofNat ii)), .val (.int (Int32.ofNat jj))] [(.int (0 : Int32))])) _
      rw [show (bI ((Int32.ofNat (own_g Rr ii)) = (Int32.ofNat (own_g Rr jj)))) = (0 : Int32) from bI_neg (P := (Int32.ofNat (own_g Rr ii)) = (Int32.ofNat (own_g Rr jj))) hm6] at kz
      exact kz
  refine OG.step s5 ?_
  have s6 : ∀ tz, Steps p.tables e below (s₁.setTop (mkF m 16 #[.val (.ref o1), .val (.ref o2), .val (.int (Int32.ofNat ii)), .val (.int (Int32.ofNat jj))] [(.int (Int32.ofNat ii)), (.ref o1), (.int (bI ((Int32.ofNat (own_g Rr ii)) = (Int32.ofNat (own_g Rr jj)))))])) tz → Steps p.tables e below (s₁.setTop (mkF m 14 #[.val (.ref o1), .val (.ref o2), .val (.int (Int32.ofNat ii)), .val (.int (Int32.ofNat jj))] [(.int (bI ((Int32.ofNat (own_g Rr ii)) = (Int32.ofNat (own_g Rr jj)))))])) tz := by
    intro tz kz
    refine XS.aloadN X0.here hx rfl (hb hby d13_14) rfl rfl ?_
    refine XS.iloadN X0.here hx rfl (hb hby d13_15) rfl ?_
    exact kz
  refine OG.step s6 ?_
  have av7 := F0_o1
  obtain ⟨cl7, Ar7, qa_7, Sa_7, Nn_7, Ha_7, Ga_7⟩ := av7
  have hin7 : ¬ ((Int32.ofNat ii) < 0 ∨ cl7.slots.size ≤ ((Int32.ofNat ii)).toNatClampNeg) := inb_of Sa_7 ⟨(own_x4 hi4).1, (own_x4 hi4).2.1⟩
  have hat7 : cl7.slots[((Int32.ofNat ii)).toNatClampNeg]? = some (.int (Int32.ofNat (own_g Lb ii))) := Ha_7.at hin7 (own_get hl.1 hi4)
  refine OG.step (X0.iaload hx (j := (Int32.ofNat ii)) (v := (.int (Int32.ofNat (own_g Lb ii)))) (by rw [e0]; exact Ar7.1) (State.isArrayOf_alike hZ.alike Ar7.2.1) Ar7.2.2 hin7 hat7 (g := (mkF m 16 #[.val (.ref o1), .val (.ref o2), .val (.int (Int32.ofNat ii)), .val (.int (Int32.ofNat jj))] [(.int (Int32.ofNat ii)), (.ref o1), (.int (bI ((Int32.ofNat (own_g Rr ii)) = (Int32.ofNat (own_g Rr jj)))))])) rfl rfl (hb hby d13_16)) ?_
  show OG _ _ _ _ _ _ _ (s₁.setTop (mkF m 17 #[.val (.ref o1), .val (.ref o2), .val (.int (Int32.ofNat ii)), .val (.int (Int32.ofNat jj))] [(.int (Int32.ofNat (own_g Lb ii))), (.int (bI ((Int32.ofNat (own_g Rr ii)) = (Int32.ofNat (own_g Rr jj)))))]))
  have s8 : ∀ tz, Steps p.tables e below (s₁.setTop (mkF m 19 #[.val (.ref o1), .val (.ref o2), .val (.int (Int32.ofNat ii)), .val (.int (Int32.ofNat jj))] [(.int (Int32.ofNat jj)), (.ref o1), (.int (Int32.ofNat (own_g Lb ii))), (.int (bI ((Int32.ofNat (own_g Rr ii)) = (Int32.ofNat (own_g Rr jj)))))])) tz → Steps p.tables e below (s₁.setTop (mkF m 17 #[.val (.ref o1), .val (.ref o2), .val (.int (Int32.ofNat ii)), .val (.int (Int32.ofNat jj))] [(.int (Int32.ofNat (own_g Lb ii))), (.int (bI ((Int32.ofNat (own_g Rr ii)) = (Int32.ofNat (own_g Rr jj)))))])) tz := by
    intro tz kz
    refine XS.aloadN X0.here hx rfl (hb hby d13_17) rfl rfl ?_
    refine XS.iloadN X0.here hx rfl (hb hby d13_18) rfl ?_
    exact kz
  refine OG.step s8 ?_
  have av9 := F0_o1
  obtain ⟨cl9, Ar9, qa_9, Sa_9, Nn_9, Ha_9, Ga_9⟩ := av9
  have hin9 : ¬ ((Int32.ofNat jj) < 0 ∨ cl9.slots.size ≤ ((Int32.ofNat jj)).toNatClampNeg) := inb_of Sa_9 ⟨(own_x4 hj4).1, (own_x4 hj4).2.1⟩
  have hat9 : cl9.slots[((Int32.ofNat jj)).toNatClampNeg]? = some (.int (Int32.ofNat (own_g Lb jj))) := Ha_9.at hin9 (own_get hl.1 hj4)
  refine OG.step (X0.iaload hx (j := (Int32.ofNat jj)) (v := (.int (Int32.ofNat (own_g Lb jj)))) (by rw [e0]; exact Ar9.1) (State.isArrayOf_alike hZ.alike Ar9.2.1) Ar9.2.2 hin9 hat9 (g := (mkF m 19 #[.val (.ref o1), .val (.ref o2), .val (.int (Int32.ofNat ii)), .val (.int (Int32.ofNat jj))] [(.int (Int32.ofNat jj)), (.ref o1), (.int (Int32.ofNat (own_g Lb ii))), (.int (bI ((Int32.ofNat (own_g Rr ii)) = (Int32.ofNat (own_g Rr jj)))))])) rfl rfl (hb hby d13_19)) ?_
  show OG _ _ _ _ _ _ _ (s₁.setTop (mkF m 20 #[.val (.ref o1), .val (.ref o2), .val (.int (Int32.ofNat ii)), .val (.int (Int32.ofNat jj))] [(.int (Int32.ofNat (own_g Lb jj))), (.int (Int32.ofNat (own_g Lb ii))), (.int (bI ((Int32.ofNat (own_g Rr ii)) = (Int32.ofNat (own_g Rr jj)))))]))
  have s10 : ∀ tz, Steps p.tables e below (s₁.setTop (mkF m 28 #[.val (.ref o1), .val (.ref o2), .val (.int (Int32.ofNat ii)), .val (.int (Int32.ofNat jj))] [(.int (bI ((Int32.ofNat (own_g Lb ii)) = (Int32.ofNat (own_g Lb jj))))), (.int (bI ((Int32.ofNat (own_g Rr ii)) = (Int32.ofNat (own_g Rr jj)))))])) tz → Steps p.tables e below (s₁.setTop (mkF m 20 #[.val (.ref o1), .val (.ref o2), .val (.int (Int32.ofNat ii)), .val (.int (Int32.ofNat jj))] [(.int (Int32.ofNat (own_g Lb jj))), (.int (Int32.ofNat (own_g Lb ii))), (.int (bI ((Int32.ofNat (own_g Rr ii)) = (Int32.ofNat (own_g Rr jj)))))])) tz := by
    intro tz kz
    by_cases hm20 : (Int32.ofNat (own_g Lb ii)) = (Int32.ofNat (own_g Lb jj))
    · refine XS.icmpNo X0.here hx rfl (hb hby d13_20) rfl (teq hm20).2 ?_
      show Steps p.tables e below (s₁.setTop (mkF m 23 #[.val (.ref o1), .val (.ref o2), .val (.int (Int32.ofNat ii)), .val (.int (Int32.ofNat jj))] [(.int (bI ((Int32.ofNat (own_g Rr ii)) = (Int32.ofNat (own_g Rr jj)))))])) _
      refine XS.iconst X0.here hx rfl (hb hby d13_23) ?_
      show Steps p.tables e below (s₁.setTop (mkF m 24 #[.val (.ref o1), .val (.ref o2), .val (.int (Int32.ofNat ii)), .val (.int (Int32.ofNat jj))] [(.int (1 : Int32)), (.int (bI ((Int32.ofNat (own_g Rr ii)) = (Int32.ofNat (own_g Rr jj)))))])) _
      refine XS.goto X0.here hx rfl (pc0 := 24) (pc' := 28) rfl (hb hby d13_24) (by decide) (by decide) ?_
      show Steps p.tables e below (s₁.setTop (mkF m 28 #[.val (.ref o1), .val (.ref o2), .val (.int (Int32.ofNat ii)), .val (.int (Int32.ofNat jj))] [(.int (1 : Int32)), (.int (bI ((Int32.ofNat (own_g Rr ii)) = (Int32.ofNat (own_g Rr jj)))))])) _
      rw [show (bI ((Int32.ofNat (own_g Lb ii)) = (Int32.ofNat (own_g Lb jj)))) = (1 : Int32) from bI_pos (P := (Int32.ofNat (own_g Lb ii)) = (Int32.ofNat (own_g Lb jj))) hm20] at kz
      exact kz
    · refine XS.icmpYes X0.here hx rfl (pc0 := 20) (pc' := 27) rfl (hb hby d13_20) rfl (feq hm20).2 (by decide) (by decide) ?_
      show Steps p.tables e below (s₁.setTop (mkF m 27 #[.val (.ref o1), .val (.ref o2), .val (.int (Int32.ofNat ii)), .val (.int (Int32.ofNat jj))] [(.int (bI ((Int32.ofNat (own_g Rr ii)) = (Int32.ofNat (own_g Rr jj)))))])) _
      refine XS.iconst X0.here hx rfl (hb hby d13_27) ?_
      show Steps p.tables e below (s₁.setTop (mkF m 28 #[.val (.ref o1), .val (.ref o2), .val (.int (Int32.ofNat ii)), .val (.int (Int32.ofNat jj))] [(.int (0 : Int32)), (.int (bI ((Int32.ofNat (own_g Rr ii)) = (Int32.ofNat (own_g Rr jj)))))])) _
      rw [show (bI ((Int32.ofNat (own_g Lb ii)) = (Int32.ofNat (own_g Lb jj)))) = (0 : Int32) from bI_neg (P := (Int32.ofNat (own_g Lb ii)) = (Int32.ofNat (own_g Lb jj))) hm20] at kz
      exact kz
  refine OG.step s10 ?_
  have s11 : ∀ tz, Steps p.tables e below (s₁.setTop (mkF m 36 #[.val (.ref o1), .val (.ref o2), .val (.int (Int32.ofNat ii)), .val (.int (Int32.ofNat jj))] [(.int (bI ((bI ((Int32.ofNat (own_g Rr ii)) = (Int32.ofNat (own_g Rr jj)))) = (bI ((Int32.ofNat (own_g Lb ii)) = (Int32.ofNat (own_g Lb jj)))))))])) tz → Steps p.tables e below (s₁.setTop (mkF m 28 #[.val (.ref o1), .val (.ref o2), .val (.int (Int32.ofNat ii)), .val (.int (Int32.ofNat jj))] [(.int (bI ((Int32.ofNat (own_g Lb ii)) = (Int32.ofNat (own_g Lb jj))))), (.int (bI ((Int32.ofNat (own_g Rr ii)) = (Int32.ofNat (own_g Rr jj)))))])) tz := by
    intro tz kz
    by_cases hm28 : (bI ((Int32.ofNat (own_g Rr ii)) = (Int32.ofNat (own_g Rr jj)))) = (bI ((Int32.ofNat (own_g Lb ii)) = (Int32.ofNat (own_g Lb jj))))
    · refine XS.icmpNo X0.here hx rfl (hb hby d13_28) rfl (teq hm28).2 ?_
      show Steps p.tables e below (s₁.setTop (mkF m 31 #[.val (.ref o1), .val (.ref o2), .val (.int (Int32.ofNat ii)), .val (.int (Int32.ofNat jj))] [])) _
      refine XS.iconst X0.here hx rfl (hb hby d13_31) ?_
      show Steps p.tables e below (s₁.setTop (mkF m 32 #[.val (.ref o1), .val (.ref o2), .val (.int (Int32.ofNat ii)), .val (.int (Int32.ofNat jj))] [(.int (1 : Int32))])) _
      refine XS.goto X0.here hx rfl (pc0 := 32) (pc' := 36) rfl (hb hby d13_32) (by decide) (by decide) ?_
      show Steps p.tables e below (s₁.setTop (mkF m 36 #[.val (.ref o1), .val (.ref o2), .val (.int (Int32.ofNat ii)), .val (.int (Int32.ofNat jj))] [(.int (1 : Int32))])) _
      rw [show (bI ((bI ((Int32.ofNat (own_g Rr ii)) = (Int32.ofNat (own_g Rr jj)))) = (bI ((Int32.ofNat (own_g Lb ii)) = (Int32.ofNat (own_g Lb jj)))))) = (1 : Int32) from bI_pos (P := (bI ((Int32.ofNat (own_g Rr ii)) = (Int32.ofNat (own_g Rr jj)))) = (bI ((Int32.ofNat (own_g Lb ii)) = (Int32.ofNat (own_g Lb jj))))) hm28] at kz
      exact kz
    · refine XS.icmpYes X0.here hx rfl (pc0 := 28) (pc' := 35) rfl (hb hby d13_28) rfl (feq hm28).2 (by decide) (by decide) ?_
      show Steps p.tables e below (s₁.setTop (mkF m 35 #[.val (.ref o1), .val (.ref o2), .val (.int (Int32.ofNat ii)), .val (.int (Int32.ofNat jj))] [])) _
      refine XS.iconst X0.here hx rfl (hb hby d13_35) ?_
      show Steps p.tables e below (s₁.setTop (mkF m 36 #[.val (.ref o1), .val (.ref o2), .val (.int (Int32.ofNat ii)), .val (.int (Int32.ofNat jj))] [(.int (0 : Int32))])) _
      rw [show (bI ((bI ((Int32.ofNat (own_g Rr ii)) = (Int32.ofNat (own_g Rr jj)))) = (bI ((Int32.ofNat (own_g Lb ii)) = (Int32.ofNat (own_g Lb jj)))))) = (0 : Int32) from bI_neg (P := (bI ((Int32.ofNat (own_g Rr ii)) = (Int32.ofNat (own_g Rr jj)))) = (bI ((Int32.ofNat (own_g Lb ii)) = (Int32.ofNat (own_g Lb jj))))) hm28] at kz
      exact kz
  refine OG.step s11 ?_
  exact OG.retZ X0 hx hlk Bd.returns (hb hby d13_36) (nar_bI _) e0 ⟨(congrArg some (congrArg Value.int (bI_iff.mpr (bI_iff.trans (iff_congr ⟨own_eqn (by have := hrr.2 _ hi4; omega) (by have := hrr.2 _ hj4; omega), congrArg Int32.ofNat⟩ ⟨own_eqn (by have := hl.2 _ hi4; omega) (by have := hl.2 _ hj4; omega), congrArg Int32.ofNat⟩))))), N0, rfl⟩ (by decide) (by decide)
theorem ef_0 (m : MethodId) (x0 : Int32) (x1 : Int32) (x2 : Int32) (x3 : Int32) (x4 : Int32) : entryFrame m #[(.int x0), (.int x1), (.int x2), (.int x3), (.int x4)] maxLocals = mkF m 0 #[.val (.int x0), .val (.int x1), .val (.int x2), .val (.int x3), .val (.int x4), .unset, .unset, .unset, .unset, .unset, .unset, .unset, .unset, .unset, .unset, .unset, .unset, .unset, .unset, .unset, .unset, .unset, .unset] [] := by first | (simp [entryFrame, mkF, argsToLocals, Value.category, maxLocals]; done) | rfl
def Q0 (Z : State) (p0 : Int32) (p1 : Int32) (p2 : Int32) (p3 : Int32) (p4 : Int32) (h0 : Heap) (n0 : Nat) (v : Option Value) (h : Heap) (L : List Loc) : Prop := (v = some (.int (1 : Int32))) ∧ (Fr n0 L)
theorem pd__I_JI_V : parseMethodDescriptor "(I[JI)V" = some ⟨[.int, (.array .long), .int], none⟩ := by decide +kernel
theorem pd__ILcom_example_tidegraph_tidegraph_amd64_InterferenceGraph__V : parseMethodDescriptor "(ILcom/example/tidegraph/tidegraph/amd64/InterferenceGraph;)V" = some ⟨[.int, (.object "com/example/tidegraph/tidegraph/amd64/InterferenceGraph")], none⟩ := by decide +kernel
theorem pd__II_V : parseMethodDescriptor "(II)V" = some ⟨[.int, .int], none⟩ := by decide +kernel
theorem pd___III_V : parseMethodDescriptor "([III)V" = some ⟨[(.array .int), .int, .int], none⟩ := by decide +kernel
theorem pd___I_II_Z : parseMethodDescriptor "([I[II)Z" = some ⟨[(.array .int), (.array .int), .int], some .boolean⟩ := by decide +kernel
theorem pd___I_III_Z : parseMethodDescriptor "([I[III)Z" = some ⟨[(.array .int), (.array .int), .int, .int], some .boolean⟩ := by decide +kernel
set_option maxRecDepth 65536 in
set_option maxHeartbeats 40000000 in
theorem rm0 (l : Launch) (Z : State) (a0 : Array Value) (hw : ∀ d ∈ tables_1, d.before a0 Z = true) (ws : List Jvm.Cond) (p0 : Int32) (p1 : Int32) (p2 : Int32) (p3 : Int32) (p4 : Int32) (h0 : Heap) (n0 : Nat) (Z0 : n0 ≤ h0.size) :
    MetFree l x (head1 (Jvm.Cond.code x code maxLocals ret :: ws) room_1) (fun a U => a = #[(.int p0), (.int p1), (.int p2), (.int p3), (.int p4)] ∧ Z.Warmed39 U.vm ∧ U.heap = h0) (fun _ _ _ _ _ => True) (fun _ U o U' => ∃ v L, o = .returned v ∧ Q0 Z p0 p1 p2 p3 p4 h0 n0 v U'.heap L ∧ FrameEnd U o U' L room_1.cells room_1.slots) := by
  refine MetFree.of_bodySF (plainFor_of_name pn_com_example_tidegraph_tidegraph_amd64_LiveRangesFindPinLaw) hisR ?_
  intro p e s m args below meth c s₁ Bd hml0 hP hK
  obtain ⟨rfl, hZ, hh⟩ := hP
  have hx := Bd.exec
  have hby := Bd.bytes
  have hlk := Bd.notSynchronized
  have hml : c.maxLocals = 23 := hml0
  have hown : s.vm.findClass "com/example/tidegraph/tidegraph/amd64/LiveRangesFindPinLaw" = some m.cls := findClass_of_methodNamed Bd.named
  have hnm := (name_of_methodNamed Bd.named Bd.method).1
  have X0 : Stand p l e room_1 s m #[(.int p0), (.int p1), (.int p2), (.int p3), (.int p4)] below meth c s₁ [] 0 0 := Stand.of_body Bd
  have e0 : s₁.heap = h0 := by rw [← hh, Bd.state]; rfl
  have N0 := Fr.nil n0
  have K0 : Keep h0 h0 [] := Keep.refl _ _
  refine (?_ : OG p e below s (Q0 Z p0 p1 p2 p3 p4 h0 n0) room_1.cells room_1.slots _)
  rw [ef_0]
  obtain ⟨T1, h1, X1, e1, E1, A1, D1, -, st1⟩ := newO X0 hx hZ hown (hw _ (List.mem_of_getElem? (i := 0) rfl)) (hw _ (List.mem_of_getElem? (i := 1) rfl)) (hw _ (List.mem_of_getElem? (i := 2) rfl)) e0 (g := (mkF m 0 #[.val (.int p0), .val (.int p1), .val (.int p2), .val (.int p3), .val (.int p4), .unset, .unset, .unset, .unset, .unset, .unset, .unset, .unset, .unset, .unset, .unset, .unset, .unset, .unset, .unset, .unset, .unset, .unset] [])) rfl (hb hby at_0) (by decide) (by decide)
  obtain ⟨b1, g1⟩ : ∃ z, z = h0.size := ⟨_, rfl⟩
  rw [← g1] at A1 D1 st1
  have sz1 : h0.size ≤ b1 := Nat.le_trans K0.1 (Nat.le_of_eq g1.symm)
  have ge1 : n0 ≤ b1 := Nat.le_trans Z0 sz1
  refine OG.step st1 ?_
  have F1_starts : Fld Z h1 b1 "com/example/tidegraph/tidegraph/amd64/InterferenceGraph" "starts" "[I" .null := D1 (Or.inr (hw _ (List.mem_of_getElem? (i := 24) rfl))) (ty := (.array .int)) (by decide)
  have F1_neighbours : Fld Z h1 b1 "com/example/tidegraph/tidegraph/amd64/InterferenceGraph" "neighbours" "[I" .null := D1 (Or.inr (hw _ (List.mem_of_getElem? (i := 38) rfl))) (ty := (.array .int)) (by decide)
  have K1 := K0.ext E1
  show OG _ _ _ _ _ _ _ (T1.setTop (mkF m 3 #[.val (.int p0), .val (.int p1), .val (.int p2), .val (.int p3), .val (.int p4), .unset, .unset, .unset, .unset, .unset, .unset, .unset, .unset, .unset, .unset, .unset, .unset, .unset, .unset, .unset, .unset, .unset, .unset] [(.ref b1)]))
  have s2 : ∀ tz, Steps p.tables e below (T1.setTop (mkF m 6 #[.val (.int p0), .val (.int p1), .val (.int p2), .val (.int p3), .val (.int p4), .unset, .unset, .unset, .unset, .unset, .unset, .unset, .unset, .unset, .unset, .unset, .unset, .unset, .unset, .unset, .unset, .unset, .unset] [(.int (0 : Int32)), (.int (4 : Int32)), (.ref b1), (.ref b1)])) tz → Steps p.tables e below (T1.setTop (mkF m 3 #[.val (.int p0), .val (.int p1), .val (.int p2), .val (.int p3), .val (.int p4), .unset, .unset, .unset, .unset, .unset, .unset, .unset, .unset, .unset, .unset, .unset, .unset, .unset, .unset, .unset, .unset, .unset, .unset] [(.ref b1)])) tz := by
    intro tz kz
    refine XS.dup X1.here hx rfl (hb hby at_3) rfl rfl ?_
    refine XS.iconst X1.here hx rfl (hb hby at_4) ?_
    refine XS.iconst X1.here hx rfl (hb hby at_5) ?_
    exact kz
  refine OG.step s2 ?_
  obtain ⟨T3, h3, k3, X3, e3, E3, A3, st3⟩ := newP X1 hx hZ (hw _ (List.mem_of_getElem? (i := 3) rfl)) e1 (g := (mkF m 6 #[.val (.int p0), .val (.int p1), .val (.int p2), .val (.int p3), .val (.int p4), .unset, .unset, .unset, .unset, .unset, .unset, .unset, .unset, .unset, .unset, .unset, .unset, .unset, .unset, .unset, .unset, .unset, .unset] [(.int (0 : Int32)), (.int (4 : Int32)), (.ref b1), (.ref b1)])) rfl (hb hby at_6) rfl (by decide) (cap := 0) (by decide) (by decide) (by decide) (by decide)
  obtain ⟨b3, g3⟩ : ∃ z, z = h1.size := ⟨_, rfl⟩
  rw [← g3] at A3 st3
  have sz3 : h0.size ≤ b3 := Nat.le_trans K1.1 (Nat.le_of_eq g3.symm)
  have ge3 : n0 ≤ b3 := Nat.le_trans Z0 sz3
  have ne3_b1 : b1 ≠ b3 := Nat.ne_of_lt (Nat.lt_of_lt_of_le A1.lt (Nat.le_of_eq g3.symm))
  refine OG.step st3 ?_
  have f4 := A1.ext E3
  have f5 := F1_starts.ext E3
  have f6 := F1_neighbours.ext E3
  have V3 : Arv Z h3 b3 k3 .long (0 : Int32) [] (.long (0 : Int64)) := (Arv.new A3 (by decide)).pad (pad_rep [] (.long (0 : Int64)) 0)
  have K3 := K1.ext E3
  show OG _ _ _ _ _ _ _ (T3.setTop (mkF m 8 #[.val (.int p0), .val (.int p1), .val (.int p2), .val (.int p3), .val (.int p4), .unset, .unset, .unset, .unset, .unset, .unset, .unset, .unset, .unset, .unset, .unset, .unset, .unset, .unset, .unset, .unset, .unset, .unset] [(.ref b3), (.int (4 : Int32)), (.ref b1), (.ref b1)]))
  have s7 : ∀ tz, Steps p.tables e below (T3.setTop (mkF m 9 #[.val (.int p0), .val (.int p1), .val (.int p2), .val (.int p3), .val (.int p4), .unset, .unset, .unset, .unset, .unset, .unset, .unset, .unset, .unset, .unset, .unset, .unset, .unset, .unset, .unset, .unset, .unset, .unset] [(.int (0 : Int32)), (.ref b3), (.int (4 : Int32)), (.ref b1), (.ref b1)])) tz → Steps p.tables e below (T3.setTop (mkF m 8 #[.val (.int p0), .val (.int p1), .val (.int p2), .val (.int p3), .val (.int p4), .unset, .unset, .unset, .unset, .unset, .unset, .unset, .unset, .unset, .unset, .unset, .unset, .unset, .unset, .unset, .unset, .unset, .unset] [(.ref b3), (.int (4 : Int32)), (.ref b1), (.ref b1)])) tz := by
    intro tz kz
    refine XS.iconst X3.here hx rfl (hb hby at_8) ?_
    exact kz
  refine OG.step s7 ?_
  obtain ⟨_, _, ⟨T8, L8, k8, n8⟩, -, X8, ⟨Lc8, hQ8, l8, y8, z8⟩, st8⟩ := X3.specialBack hx (y := (⟨"com/example/tidegraph/tidegraph/amd64/InterferenceGraph", "<init>", "(I[JI)V"⟩ : MethodName)) rfl hown (mvT hZ (hw _ (List.mem_of_getElem? (i := 4) rfl))) (mvT hZ (hw _ (List.mem_of_getElem? (i := 5) rfl))) (mvT hZ (hw _ (List.mem_of_getElem? (i := 6) rfl))) (by decide) (backOf (W := 1) (rm1 l Z a0 hw [] b1 b3 .null .null h3 n0 (Nat.le_trans Z0 K3.1) f4 f5 f6 ge1) hZ (hw _ (List.mem_of_getElem? (i := 6) rfl)) (hw _ (List.mem_of_getElem? (i := 2) rfl)) (by decide) (by decide)) (g := (mkF m 9 #[.val (.int p0), .val (.int p1), .val (.int p2), .val (.int p3), .val (.int p4), .unset, .unset, .unset, .unset, .unset, .unset, .unset, .unset, .unset, .unset, .unset, .unset, .unset, .unset, .unset, .unset, .unset, .unset] [(.int (0 : Int32)), (.ref b3), (.int (4 : Int32)), (.ref b1), (.ref b1)])) rfl (by rw [hml]; rfl) (Steps.refl _) (a := b1) (argsL := [(.int (4 : Int32)), (.ref b3), (.int (0 : Int32))]) (rest := [(.ref b1)]) (lenOf pd__I_JI_V rfl) rfl (by show 2 * 0 + _ ≤ _; exact Nat.le_of_eq rfl) (hb hby at_9) (fun _ _ => ⟨rfl, e3, (by decide : 2 + 5 ≤ _), (by decide : 2 + 14 ≤ _)⟩)
  dsimp only [Pt.U, Pt.locs, Pt.cells, Pt.slots] at X8 l8 y8 z8 st8 hQ8
  subst l8 y8 z8
  obtain ⟨gs_8, ks_8, rfl, N8q, Kc8, p8_0, p8_1, u8_0⟩ := hQ8
  have N8 := Fr.app N0 N8q
  refine OG.step (fun tz kz => st8.trans kz) ?_
  have f9 := f4.keep Kc8
  have f12 := V3.keep Kc8 (ninS (Ne.symm ne3_b1) nin0)
  have K8 := K3.trans Kc8 (allS (Or.inr sz1) all0)
  obtain ⟨Lz13, X8, N8⟩ : ∃ Lz, Stand p l e room_1 s m #[(.int p0), (.int p1), (.int p2), (.int p3), (.int p4)] below meth c T8 Lz 7 16 ∧ Fr n0 Lz := ⟨_, X8, N8⟩
  have sz8_gs_8 : h0.size ≤ gs_8 := Nat.le_trans K3.1 u8_0
  have ge8_gs_8 : n0 ≤ gs_8 := Nat.le_trans Z0 sz8_gs_8
  have ne8_b1_gs_8 : b1 ≠ gs_8 := Nat.ne_of_lt (Nat.lt_of_lt_of_le f4.lt u8_0)
  have ne8_b3_gs_8 : b3 ≠ gs_8 := Nat.ne_of_lt (Nat.lt_of_lt_of_le V3.lt u8_0)
  show OG _ _ _ _ _ _ _ (T8.setTop (mkF m 12 #[.val (.int p0), .val (.int p1), .val (.int p2), .val (.int p3), .val (.int p4), .unset, .unset, .unset, .unset, .unset, .unset, .unset, .unset, .unset, .unset, .unset, .unset, .unset, .unset, .unset, .unset, .unset, .unset] [(.ref b1)]))
  have s14 : ∀ tz, Steps p.tables e below (T8.setTop (mkF m 14 #[.val (.int p0), .val (.int p1), .val (.int p2), .val (.int p3), .val (.int p4), .val (.ref b1), .unset, .unset, .unset, .unset, .unset, .unset, .unset, .unset, .unset, .unset, .unset, .unset, .unset, .unset, .unset, .unset, .unset] [])) tz → Steps p.tables e below (T8.setTop (mkF m 12 #[.val (.int p0), .val (.int p1), .val (.int p2), .val (.int p3), .val (.int p4), .unset, .unset, .unset, .unset, .unset, .unset, .unset, .unset, .unset, .unset, .unset, .unset, .unset, .unset, .unset, .unset, .unset, .unset] [(.ref b1)])) tz := by
    intro tz kz
    refine XS.astore X8.here hx rfl (hb hby at_12) rfl rfl (l' := #[.val (.int p0), .val (.int p1), .val (.int p2), .val (.int p3), .val (.int p4), .val (.ref b1), .unset, .unset, .unset, .unset, .unset, .unset, .unset, .unset, .unset, .unset, .unset, .unset, .unset, .unset, .unset, .unset, .unset]) rfl ?_
    exact kz
  refine OG.step s14 ?_
  obtain ⟨T15, h15, X15, e15, E15, A15, D15, -, st15⟩ := newO X8 hx hZ hown (hw _ (List.mem_of_getElem? (i := 39) rfl)) (hw _ (List.mem_of_getElem? (i := 40) rfl)) (hw _ (List.mem_of_getElem? (i := 41) rfl)) rfl (g := (mkF m 14 #[.val (.int p0), .val (.int p1), .val (.int p2), .val (.int p3), .val (.int p4), .val (.ref b1), .unset, .unset, .unset, .unset, .unset, .unset, .unset, .unset, .unset, .unset, .unset, .unset, .unset, .unset, .unset, .unset, .unset] [])) rfl (hb hby at_14) (by decide) (by decide)
  obtain ⟨b15, g15⟩ : ∃ z, z = T8.heap.size := ⟨_, rfl⟩
  rw [← g15] at A15 D15 st15
  have sz15 : h0.size ≤ b15 := Nat.le_trans K8.1 (Nat.le_of_eq g15.symm)
  have ge15 : n0 ≤ b15 := Nat.le_trans Z0 sz15
  have ne15_b1 : b1 ≠ b15 := Nat.ne_of_lt (Nat.lt_of_lt_of_le f9.lt (Nat.le_of_eq g15.symm))
  have ne15_b3 : b3 ≠ b15 := Nat.ne_of_lt (Nat.lt_of_lt_of_le f12.lt (Nat.le_of_eq g15.symm))
  have ne15_gs_8 : gs_8 ≠ b15 := Nat.ne_of_lt (Nat.lt_of_lt_of_le p8_1.lt (Nat.le_of_eq g15.symm))
  refine OG.step st15 ?_
  have f16 := f9.ext E15
  have f17 := f12.ext E15
  have f18 := p8_0.ext E15
  have f19 := p8_1.ext E15
  have F15_values : Fld Z h15 b15 "com/example/tidegraph/tidegraph/amd64/LiveRanges" "values" "Lcom/example/tidegraph/tidegraph/amd64/InterferenceGraph;" .null := D15 (Or.inr (hw _ (List.mem_of_getElem? (i := 47) rfl))) (ty := (.object "com/example/tidegraph/tidegraph/amd64/InterferenceGraph")) (by decide)
  have F15_parent : Fld Z h15 b15 "com/example/tidegraph/tidegraph/amd64/LiveRanges" "parent" "[I" .null := D15 (Or.inr (hw _ (List.mem_of_getElem? (i := 49) rfl))) (ty := (.array .int)) (by decide)
  have F15_size : Fld Z h15 b15 "com/example/tidegraph/tidegraph/amd64/LiveRanges" "size" "[I" .null := D15 (Or.inr (hw _ (List.mem_of_getElem? (i := 51) rfl))) (ty := (.array .int)) (by decide)
  have F15_next : Fld Z h15 b15 "com/example/tidegraph/tidegraph/amd64/LiveRanges" "next" "[I" .null := D15 (Or.inr (hw _ (List.mem_of_getElem? (i := 53) rfl))) (ty := (.array .int)) (by decide)
  have F15_last : Fld Z h15 b15 "com/example/tidegraph/tidegraph/amd64/LiveRanges" "last" "[I" .null := D15 (Or.inr (hw _ (List.mem_of_getElem? (i := 55) rfl))) (ty := (.array .int)) (by decide)
  have K15 := K8.ext E15
  show OG _ _ _ _ _ _ _ (T15.setTop (mkF m 17 #[.val (.int p0), .val (.int p1), .val (.int p2), .val (.int p3), .val (.int p4), .val (.ref b1), .unset, .unset, .unset, .unset, .unset, .unset, .unset, .unset, .unset, .unset, .unset, .unset, .unset, .unset, .unset, .unset, .unset] [(.ref b15)]))
  have s20 : ∀ tz, Steps p.tables e below (T15.setTop (mkF m 21 #[.val (.int p0), .val (.int p1), .val (.int p2), .val (.int p3), .val (.int p4), .val (.ref b1), .unset, .unset, .unset, .unset, .unset, .unset, .unset, .unset, .unset, .unset, .unset, .unset, .unset, .unset, .unset, .unset, .unset] [(.ref b1), (.int (4 : Int32)), (.ref b15), (.ref b15)])) tz → Steps p.tables e below (T15.setTop (mkF m 17 #[.val (.int p0), .val (.int p1), .val (.int p2), .val (.int p3), .val (.int p4), .val (.ref b1), .unset, .unset, .unset, .unset, .unset, .unset, .unset, .unset, .unset, .unset, .unset, .unset, .unset, .unset, .unset, .unset, .unset] [(.ref b15)])) tz := by
    intro tz kz
    refine XS.dup X15.here hx rfl (hb hby at_17) rfl rfl ?_
    refine XS.iconst X15.here hx rfl (hb hby at_18) ?_
    refine XS.aload X15.here hx rfl (hb hby at_19) rfl rfl ?_
    exact kz
  refine OG.step s20 ?_
  obtain ⟨_, _, ⟨T21, L21, k21, n21⟩, -, X21, ⟨Lc21, hQ21, l21, y21, z21⟩, st21⟩ := X15.specialBack hx (y := (⟨"com/example/tidegraph/tidegraph/amd64/LiveRanges", "<init>", "(ILcom/example/tidegraph/tidegraph/amd64/InterferenceGraph;)V"⟩ : MethodName)) rfl hown (mvT hZ (hw _ (List.mem_of_getElem? (i := 42) rfl))) (mvT hZ (hw _ (List.mem_of_getElem? (i := 43) rfl))) (mvT hZ (hw _ (List.mem_of_getElem? (i := 44) rfl))) (by decide) (backOf (W := 1) (rm6 l Z a0 hw [] b15 b1 .null .null .null .null .null h15 n0 (Nat.le_trans Z0 K15.1) A15 F15_values F15_parent F15_size F15_next F15_last ge15) hZ (hw _ (List.mem_of_getElem? (i := 44) rfl)) (hw _ (List.mem_of_getElem? (i := 41) rfl)) (by decide) (by decide)) (g := (mkF m 21 #[.val (.int p0), .val (.int p1), .val (.int p2), .val (.int p3), .val (.int p4), .val (.ref b1), .unset, .unset, .unset, .unset, .unset, .unset, .unset, .unset, .unset, .unset, .unset, .unset, .unset, .unset, .unset, .unset, .unset] [(.ref b1), (.int (4 : Int32)), (.ref b15), (.ref b15)])) rfl (by rw [hml]; rfl) (Steps.refl _) (a := b15) (argsL := [(.int (4 : Int32)), (.ref b1)]) (rest := [(.ref b15)]) (lenOf pd__ILcom_example_tidegraph_tidegraph_amd64_InterferenceGraph__V rfl) rfl (by show 2 * 0 + _ ≤ _; exact Nat.le_of_eq rfl) (hb hby at_21) (fun _ _ => ⟨rfl, e15, (by decide : 8 + 4 ≤ _), (by decide : 21 + 16 ≤ _)⟩)
  dsimp only [Pt.U, Pt.locs, Pt.cells, Pt.slots] at X21 l21 y21 z21 st21 hQ21
  subst l21 y21 z21
  obtain ⟨ap_21, az_21, an_21, al_21, kp_21, kz_21, kn_21, kl_21, rfl, N21q, Kc21, p21_0, p21_1, p21_2, p21_3, p21_4, p21_5, p21_6, p21_7, p21_8, u21_0, u21_1, u21_2, u21_3, u21_4, u21_5, u21_6, u21_7, u21_8, u21_9⟩ := hQ21
  have N21 := Fr.app N8 N21q
  refine OG.step (fun tz kz => st21.trans kz) ?_
  have f22 := f16.keep Kc21
  have f23 := f17.keep Kc21 (ninS ne15_b3 nin0)
  have f24 := f18.keep Kc21 (ninS ne15_b1 nin0)
  have f25 := f19.keep Kc21 (ninS ne15_gs_8 nin0)
  have f26 := A15.keep Kc21
  have K21 := K15.trans Kc21 (allS (Or.inr sz15) all0)
  obtain ⟨Lz32, X21, N21⟩ : ∃ Lz, Stand p l e room_1 s m #[(.int p0), (.int p1), (.int p2), (.int p3), (.int p4)] below meth c T21 Lz 12 37 ∧ Fr n0 Lz := ⟨_, X21, N21⟩
  have sz21_ap_21 : h0.size ≤ ap_21 := Nat.le_trans K15.1 u21_0
  have ge21_ap_21 : n0 ≤ ap_21 := Nat.le_trans Z0 sz21_ap_21
  have ne21_b1_ap_21 : b1 ≠ ap_21 := Nat.ne_of_lt (Nat.lt_of_lt_of_le f16.lt u21_0)
  have ne21_b3_ap_21 : b3 ≠ ap_21 := Nat.ne_of_lt (Nat.lt_of_lt_of_le f17.lt u21_0)
  have ne21_gs_8_ap_21 : gs_8 ≠ ap_21 := Nat.ne_of_lt (Nat.lt_of_lt_of_le f19.lt u21_0)
  have ne21_b15_ap_21 : b15 ≠ ap_21 := Nat.ne_of_lt (Nat.lt_of_lt_of_le A15.lt u21_0)
  have sz21_az_21 : h0.size ≤ az_21 := Nat.le_trans K15.1 u21_1
  have ge21_az_21 : n0 ≤ az_21 := Nat.le_trans Z0 sz21_az_21
  have ne21_b1_az_21 : b1 ≠ az_21 := Nat.ne_of_lt (Nat.lt_of_lt_of_le f16.lt u21_1)
  have ne21_b3_az_21 : b3 ≠ az_21 := Nat.ne_of_lt (Nat.lt_of_lt_of_le f17.lt u21_1)
  have ne21_gs_8_az_21 : gs_8 ≠ az_21 := Nat.ne_of_lt (Nat.lt_of_lt_of_le f19.lt u21_1)
  have ne21_b15_az_21 : b15 ≠ az_21 := Nat.ne_of_lt (Nat.lt_of_lt_of_le A15.lt u21_1)
  have sz21_an_21 : h0.size ≤ an_21 := Nat.le_trans K15.1 u21_2
  have ge21_an_21 : n0 ≤ an_21 := Nat.le_trans Z0 sz21_an_21
  have ne21_b1_an_21 : b1 ≠ an_21 := Nat.ne_of_lt (Nat.lt_of_lt_of_le f16.lt u21_2)
  have ne21_b3_an_21 : b3 ≠ an_21 := Nat.ne_of_lt (Nat.lt_of_lt_of_le f17.lt u21_2)
  have ne21_gs_8_an_21 : gs_8 ≠ an_21 := Nat.ne_of_lt (Nat.lt_of_lt_of_le f19.lt u21_2)
  have ne21_b15_an_21 : b15 ≠ an_21 := Nat.ne_of_lt (Nat.lt_of_lt_of_le A15.lt u21_2)
  have sz21_al_21 : h0.size ≤ al_21 := Nat.le_trans K15.1 u21_3
  have ge21_al_21 : n0 ≤ al_21 := Nat.le_trans Z0 sz21_al_21
  have ne21_b1_al_21 : b1 ≠ al_21 := Nat.ne_of_lt (Nat.lt_of_lt_of_le f16.lt u21_3)
  have ne21_b3_al_21 : b3 ≠ al_21 := Nat.ne_of_lt (Nat.lt_of_lt_of_le f17.lt u21_3)
  have ne21_gs_8_al_21 : gs_8 ≠ al_21 := Nat.ne_of_lt (Nat.lt_of_lt_of_le f19.lt u21_3)
  have ne21_b15_al_21 : b15 ≠ al_21 := Nat.ne_of_lt (Nat.lt_of_lt_of_le A15.lt u21_3)
  show OG _ _ _ _ _ _ _ (T21.setTop (mkF m 24 #[.val (.int p0), .val (.int p1), .val (.int p2), .val (.int p3), .val (.int p4), .val (.ref b1), .unset, .unset, .unset, .unset, .unset, .unset, .unset, .unset, .unset, .unset, .unset, .unset, .unset, .unset, .unset, .unset, .unset] [(.ref b15)]))
  have s33 : ∀ tz, Steps p.tables e below (T21.setTop (mkF m 27 #[.val (.int p0), .val (.int p1), .val (.int p2), .val (.int p3), .val (.int p4), .val (.ref b1), .val (.ref b15), .unset, .unset, .unset, .unset, .unset, .unset, .unset, .unset, .unset, .unset, .unset, .unset, .unset, .unset, .unset, .unset] [(.int (4 : Int32))])) tz → Steps p.tables e below (T21.setTop (mkF m 24 #[.val (.int p0), .val (.int p1), .val (.int p2), .val (.int p3), .val (.int p4), .val (.ref b1), .unset, .unset, .unset, .unset, .unset, .unset, .unset, .unset, .unset, .unset, .unset, .unset, .unset, .unset, .unset, .unset, .unset] [(.ref b15)])) tz := by
    intro tz kz
    refine XS.astore X21.here hx rfl (hb hby at_24) rfl rfl (l' := #[.val (.int p0), .val (.int p1), .val (.int p2), .val (.int p3), .val (.int p4), .val (.ref b1), .val (.ref b15), .unset, .unset, .unset, .unset, .unset, .unset, .unset, .unset, .unset, .unset, .unset, .unset, .unset, .unset, .unset, .unset]) rfl ?_
    refine XS.iconst X21.here hx rfl (hb hby at_26) ?_
    exact kz
  refine OG.step s33 ?_
  obtain ⟨T34, h34, k34, X34, e34, E34, A34, st34⟩ := newP X21 hx hZ (hw _ (List.mem_of_getElem? (i := 10) rfl)) rfl (g := (mkF m 27 #[.val (.int p0), .val (.int p1), .val (.int p2), .val (.int p3), .val (.int p4), .val (.ref b1), .val (.ref b15), .unset, .unset, .unset, .unset, .unset, .unset, .unset, .unset, .unset, .unset, .unset, .unset, .unset, .unset, .unset, .unset] [(.int (4 : Int32))])) rfl (hb hby at_27) rfl (by decide) (cap := 4) (by decide) (by decide) (by decide) (by decide)
  obtain ⟨b34, g34⟩ : ∃ z, z = T21.heap.size := ⟨_, rfl⟩
  rw [← g34] at A34 st34
  have sz34 : h0.size ≤ b34 := Nat.le_trans K21.1 (Nat.le_of_eq g34.symm)
  have ge34 : n0 ≤ b34 := Nat.le_trans Z0 sz34
  have ne34_b1 : b1 ≠ b34 := Nat.ne_of_lt (Nat.lt_of_lt_of_le f22.lt (Nat.le_of_eq g34.symm))
  have ne34_b3 : b3 ≠ b34 := Nat.ne_of_lt (Nat.lt_of_lt_of_le f23.lt (Nat.le_of_eq g34.symm))
  have ne34_gs_8 : gs_8 ≠ b34 := Nat.ne_of_lt (Nat.lt_of_lt_of_le f25.lt (Nat.le_of_eq g34.symm))
  have ne34_b15 : b15 ≠ b34 := Nat.ne_of_lt (Nat.lt_of_lt_of_le f26.lt (Nat.le_of_eq g34.symm))
  have ne34_ap_21 : ap_21 ≠ b34 := Nat.ne_of_lt (Nat.lt_of_lt_of_le p21_5.lt (Nat.le_of_eq g34.symm))
  have ne34_az_21 : az_21 ≠ b34 := Nat.ne_of_lt (Nat.lt_of_lt_of_le p21_6.lt (Nat.le_of_eq g34.symm))
  have ne34_an_21 : an_21 ≠ b34 := Nat.ne_of_lt (Nat.lt_of_lt_of_le p21_7.lt (Nat.le_of_eq g34.symm))
  have ne34_al_21 : al_21 ≠ b34 := Nat.ne_of_lt (Nat.lt_of_lt_of_le p21_8.lt (Nat.le_of_eq g34.symm))
  refine OG.step st34 ?_
  have f35 := f22.ext E34
  have f36 := f23.ext E34
  have f37 := f24.ext E34
  have f38 := f25.ext E34
  have f39 := f26.ext E34
  have f40 := p21_0.ext E34
  have f41 := p21_1.ext E34
  have f42 := p21_2.ext E34
  have f43 := p21_3.ext E34
  have f44 := p21_4.ext E34
  have f45 := p21_5.ext E34
  have f46 := p21_6.ext E34
  have f47 := p21_7.ext E34
  have f48 := p21_8.ext E34
  have V34 : Arv Z h34 b34 k34 .int (4 : Int32) [(.int (0 : Int32)), (.int (0 : Int32)), (.int (0 : Int32)), (.int (0 : Int32))] (.int (0 : Int32)) := (Arv.new A34 (by decide)).pad (pad_rep [] (.int (0 : Int32)) 4)
  have K34 := K21.ext E34
  show OG _ _ _ _ _ _ _ (T34.setTop (mkF m 29 #[.val (.int p0), .val (.int p1), .val (.int p2), .val (.int p3), .val (.int p4), .val (.ref b1), .val (.ref b15), .unset, .unset, .unset, .unset, .unset, .unset, .unset, .unset, .unset, .unset, .unset, .unset, .unset, .unset, .unset, .unset] [(.ref b34)]))
  have s49 : ∀ tz, Steps p.tables e below (T34.setTop (mkF m 32 #[.val (.int p0), .val (.int p1), .val (.int p2), .val (.int p3), .val (.int p4), .val (.ref b1), .val (.ref b15), .unset, .unset, .unset, .unset, .unset, .unset, .unset, .unset, .unset, .unset, .unset, .unset, .unset, .unset, .unset, .unset] [(.int (0 : Int32)), (.int (0 : Int32)), (.ref b34), (.ref b34)])) tz → Steps p.tables e below (T34.setTop (mkF m 29 #[.val (.int p0), .val (.int p1), .val (.int p2), .val (.int p3), .val (.int p4), .val (.ref b1), .val (.ref b15), .unset, .unset, .unset, .unset, .unset, .unset, .unset, .unset, .unset, .unset, .unset, .unset, .unset, .unset, .unset, .unset] [(.ref b34)])) tz := by
    intro tz kz
    refine XS.dup X34.here hx rfl (hb hby at_29) rfl rfl ?_
    refine XS.iconst X34.here hx rfl (hb hby at_30) ?_
    refine XS.iconst X34.here hx rfl (hb hby at_31) ?_
    exact kz
  refine OG.step s49 ?_
  have av50 := V34
  obtain ⟨cl50, Ar50, qa_50, Sa_50, Nn_50, Ha_50, Ga_50⟩ := av50
  have hin50 : ¬ ((0 : Int32) < 0 ∨ cl50.slots.size ≤ ((0 : Int32)).toNatClampNeg) := inb_of Sa_50 ⟨(by decide), (by decide)⟩
  obtain ⟨T51, h51, X51, e51, W51, st51⟩ := stI X34 hx hZ e34 Ar50 (j := (0 : Int32)) hin50 (g := (mkF m 32 #[.val (.int p0), .val (.int p1), .val (.int p2), .val (.int p3), .val (.int p4), .val (.ref b1), .val (.ref b15), .unset, .unset, .unset, .unset, .unset, .unset, .unset, .unset, .unset, .unset, .unset, .unset, .unset, .unset, .unset, .unset] [(.int (0 : Int32)), (.int (0 : Int32)), (.ref b34), (.ref b34)])) rfl rfl (hb hby at_32)
  refine OG.step st51 ?_
  have Va51 := Arv.set Ar50 qa_50 Sa_50 Nn_50 Ha_50 Ga_50 rfl W51 (0) (by decide) (Nat.le_of_ble_eq_true rfl)
  have V51 : Arv Z h51 b34 k34 .int (4 : Int32) [(.int (0 : Int32)), (.int (0 : Int32)), (.int (0 : Int32)), (.int (0 : Int32))] (.int (0 : Int32)) := Va51
  have f52 := f35.wr W51
  have f53 := f36.other W51 ne34_b3
  have f54 := f37.other W51 (Or.inl ne34_b1)
  have f55 := f38.other W51 ne34_gs_8
  have f56 := f39.wr W51
  have f57 := f40.other W51 (Or.inl ne34_b15)
  have f58 := f41.other W51 (Or.inl ne34_b15)
  have f59 := f42.other W51 (Or.inl ne34_b15)
  have f60 := f43.other W51 (Or.inl ne34_b15)
  have f61 := f44.other W51 (Or.inl ne34_b15)
  have f62 := f45.other W51 ne34_ap_21
  have f63 := f46.other W51 ne34_az_21
  have f64 := f47.other W51 ne34_an_21
  have f65 := f48.other W51 ne34_al_21
  have K51 := K34.wr W51 (Or.inr sz34)
  have N51 := Fr.snoc X51 N21 ge34
  obtain ⟨Lz66, X51, N51⟩ : ∃ Lz, Stand p l e room_1 s m #[(.int p0), (.int p1), (.int p2), (.int p3), (.int p4)] below meth c T51 Lz 13 41 ∧ Fr n0 Lz := ⟨_, X51, N51⟩
  show OG _ _ _ _ _ _ _ (T51.setTop (mkF m 33 #[.val (.int p0), .val (.int p1), .val (.int p2), .val (.int p3), .val (.int p4), .val (.ref b1), .val (.ref b15), .unset, .unset, .unset, .unset, .unset, .unset, .unset, .unset, .unset, .unset, .unset, .unset, .unset, .unset, .unset, .unset] [(.ref b34)]))
  have s67 : ∀ tz, Steps p.tables e below (T51.setTop (mkF m 36 #[.val (.int p0), .val (.int p1), .val (.int p2), .val (.int p3), .val (.int p4), .val (.ref b1), .val (.ref b15), .unset, .unset, .unset, .unset, .unset, .unset, .unset, .unset, .unset, .unset, .unset, .unset, .unset, .unset, .unset, .unset] [(.int (1 : Int32)), (.int (1 : Int32)), (.ref b34), (.ref b34)])) tz → Steps p.tables e below (T51.setTop (mkF m 33 #[.val (.int p0), .val (.int p1), .val (.int p2), .val (.int p3), .val (.int p4), .val (.ref b1), .val (.ref b15), .unset, .unset, .unset, .unset, .unset, .unset, .unset, .unset, .unset, .unset, .unset, .unset, .unset, .unset, .unset, .unset] [(.ref b34)])) tz := by
    intro tz kz
    refine XS.dup X51.here hx rfl (hb hby at_33) rfl rfl ?_
    refine XS.iconst X51.here hx rfl (hb hby at_34) ?_
    refine XS.iconst X51.here hx rfl (hb hby at_35) ?_
    exact kz
  refine OG.step s67 ?_
  have av68 := V51
  obtain ⟨cl68, Ar68, qa_68, Sa_68, Nn_68, Ha_68, Ga_68⟩ := av68
  have hin68 : ¬ ((1 : Int32) < 0 ∨ cl68.slots.size ≤ ((1 : Int32)).toNatClampNeg) := inb_of Sa_68 ⟨(by decide), (by decide)⟩
  obtain ⟨T69, h69, X69, e69, W69, st69⟩ := stI X51 hx hZ e51 Ar68 (j := (1 : Int32)) hin68 (g := (mkF m 36 #[.val (.int p0), .val (.int p1), .val (.int p2), .val (.int p3), .val (.int p4), .val (.ref b1), .val (.ref b15), .unset, .unset, .unset, .unset, .unset, .unset, .unset, .unset, .unset, .unset, .unset, .unset, .unset, .unset, .unset, .unset] [(.int (1 : Int32)), (.int (1 : Int32)), (.ref b34), (.ref b34)])) rfl rfl (hb hby at_36)
  refine OG.step st69 ?_
  have Va69 := Arv.set Ar68 qa_68 Sa_68 Nn_68 Ha_68 Ga_68 rfl W69 (1) (by decide) (Nat.le_of_ble_eq_true rfl)
  have V69 : Arv Z h69 b34 k34 .int (4 : Int32) [(.int (0 : Int32)), (.int (1 : Int32)), (.int (0 : Int32)), (.int (0 : Int32))] (.int (0 : Int32)) := Va69
  have f70 := f52.wr W69
  have f71 := f53.other W69 ne34_b3
  have f72 := f54.other W69 (Or.inl ne34_b1)
  have f73 := f55.other W69 ne34_gs_8
  have f74 := f56.wr W69
  have f75 := f57.other W69 (Or.inl ne34_b15)
  have f76 := f58.other W69 (Or.inl ne34_b15)
  have f77 := f59.other W69 (Or.inl ne34_b15)
  have f78 := f60.other W69 (Or.inl ne34_b15)
  have f79 := f61.other W69 (Or.inl ne34_b15)
  have f80 := f62.other W69 ne34_ap_21
  have f81 := f63.other W69 ne34_az_21
  have f82 := f64.other W69 ne34_an_21
  have f83 := f65.other W69 ne34_al_21
  have K69 := K51.wr W69 (Or.inr sz34)
  have N69 := Fr.snoc X69 N51 ge34
  obtain ⟨Lz84, X69, N69⟩ : ∃ Lz, Stand p l e room_1 s m #[(.int p0), (.int p1), (.int p2), (.int p3), (.int p4)] below meth c T69 Lz 13 41 ∧ Fr n0 Lz := ⟨_, X69, N69⟩
  show OG _ _ _ _ _ _ _ (T69.setTop (mkF m 37 #[.val (.int p0), .val (.int p1), .val (.int p2), .val (.int p3), .val (.int p4), .val (.ref b1), .val (.ref b15), .unset, .unset, .unset, .unset, .unset, .unset, .unset, .unset, .unset, .unset, .unset, .unset, .unset, .unset, .unset, .unset] [(.ref b34)]))
  have s85 : ∀ tz, Steps p.tables e below (T69.setTop (mkF m 40 #[.val (.int p0), .val (.int p1), .val (.int p2), .val (.int p3), .val (.int p4), .val (.ref b1), .val (.ref b15), .unset, .unset, .unset, .unset, .unset, .unset, .unset, .unset, .unset, .unset, .unset, .unset, .unset, .unset, .unset, .unset] [(.int (2 : Int32)), (.int (2 : Int32)), (.ref b34), (.ref b34)])) tz → Steps p.tables e below (T69.setTop (mkF m 37 #[.val (.int p0), .val (.int p1), .val (.int p2), .val (.int p3), .val (.int p4), .val (.ref b1), .val (.ref b15), .unset, .unset, .unset, .unset, .unset, .unset, .unset, .unset, .unset, .unset, .unset, .unset, .unset, .unset, .unset, .unset] [(.ref b34)])) tz := by
    intro tz kz
    refine XS.dup X69.here hx rfl (hb hby at_37) rfl rfl ?_
    refine XS.iconst X69.here hx rfl (hb hby at_38) ?_
    refine XS.iconst X69.here hx rfl (hb hby at_39) ?_
    exact kz
  refine OG.step s85 ?_
  have av86 := V69
  obtain ⟨cl86, Ar86, qa_86, Sa_86, Nn_86, Ha_86, Ga_86⟩ := av86
  have hin86 : ¬ ((2 : Int32) < 0 ∨ cl86.slots.size ≤ ((2 : Int32)).toNatClampNeg) := inb_of Sa_86 ⟨(by decide), (by decide)⟩
  obtain ⟨T87, h87, X87, e87, W87, st87⟩ := stI X69 hx hZ e69 Ar86 (j := (2 : Int32)) hin86 (g := (mkF m 40 #[.val (.int p0), .val (.int p1), .val (.int p2), .val (.int p3), .val (.int p4), .val (.ref b1), .val (.ref b15), .unset, .unset, .unset, .unset, .unset, .unset, .unset, .unset, .unset, .unset, .unset, .unset, .unset, .unset, .unset, .unset] [(.int (2 : Int32)), (.int (2 : Int32)), (.ref b34), (.ref b34)])) rfl rfl (hb hby at_40)
  refine OG.step st87 ?_
  have Va87 := Arv.set Ar86 qa_86 Sa_86 Nn_86 Ha_86 Ga_86 rfl W87 (2) (by decide) (Nat.le_of_ble_eq_true rfl)
  have V87 : Arv Z h87 b34 k34 .int (4 : Int32) [(.int (0 : Int32)), (.int (1 : Int32)), (.int (2 : Int32)), (.int (0 : Int32))] (.int (0 : Int32)) := Va87
  have f88 := f70.wr W87
  have f89 := f71.other W87 ne34_b3
  have f90 := f72.other W87 (Or.inl ne34_b1)
  have f91 := f73.other W87 ne34_gs_8
  have f92 := f74.wr W87
  have f93 := f75.other W87 (Or.inl ne34_b15)
  have f94 := f76.other W87 (Or.inl ne34_b15)
  have f95 := f77.other W87 (Or.inl ne34_b15)
  have f96 := f78.other W87 (Or.inl ne34_b15)
  have f97 := f79.other W87 (Or.inl ne34_b15)
  have f98 := f80.other W87 ne34_ap_21
  have f99 := f81.other W87 ne34_az_21
  have f100 := f82.other W87 ne34_an_21
  have f101 := f83.other W87 ne34_al_21
  have K87 := K69.wr W87 (Or.inr sz34)
  have N87 := Fr.snoc X87 N69 ge34
  obtain ⟨Lz102, X87, N87⟩ : ∃ Lz, Stand p l e room_1 s m #[(.int p0), (.int p1), (.int p2), (.int p3), (.int p4)] below meth c T87 Lz 13 41 ∧ Fr n0 Lz := ⟨_, X87, N87⟩
  show OG _ _ _ _ _ _ _ (T87.setTop (mkF m 41 #[.val (.int p0), .val (.int p1), .val (.int p2), .val (.int p3), .val (.int p4), .val (.ref b1), .val (.ref b15), .unset, .unset, .unset, .unset, .unset, .unset, .unset, .unset, .unset, .unset, .unset, .unset, .unset, .unset, .unset, .unset] [(.ref b34)]))
  have s103 : ∀ tz, Steps p.tables e below (T87.setTop (mkF m 44 #[.val (.int p0), .val (.int p1), .val (.int p2), .val (.int p3), .val (.int p4), .val (.ref b1), .val (.ref b15), .unset, .unset, .unset, .unset, .unset, .unset, .unset, .unset, .unset, .unset, .unset, .unset, .unset, .unset, .unset, .unset] [(.int (3 : Int32)), (.int (3 : Int32)), (.ref b34), (.ref b34)])) tz → Steps p.tables e below (T87.setTop (mkF m 41 #[.val (.int p0), .val (.int p1), .val (.int p2), .val (.int p3), .val (.int p4), .val (.ref b1), .val (.ref b15), .unset, .unset, .unset, .unset, .unset, .unset, .unset, .unset, .unset, .unset, .unset, .unset, .unset, .unset, .unset, .unset] [(.ref b34)])) tz := by
    intro tz kz
    refine XS.dup X87.here hx rfl (hb hby at_41) rfl rfl ?_
    refine XS.iconst X87.here hx rfl (hb hby at_42) ?_
    refine XS.iconst X87.here hx rfl (hb hby at_43) ?_
    exact kz
  refine OG.step s103 ?_
  have av104 := V87
  obtain ⟨cl104, Ar104, qa_104, Sa_104, Nn_104, Ha_104, Ga_104⟩ := av104
  have hin104 : ¬ ((3 : Int32) < 0 ∨ cl104.slots.size ≤ ((3 : Int32)).toNatClampNeg) := inb_of Sa_104 ⟨(by decide), (by decide)⟩
  obtain ⟨T105, h105, X105, e105, W105, st105⟩ := stI X87 hx hZ e87 Ar104 (j := (3 : Int32)) hin104 (g := (mkF m 44 #[.val (.int p0), .val (.int p1), .val (.int p2), .val (.int p3), .val (.int p4), .val (.ref b1), .val (.ref b15), .unset, .unset, .unset, .unset, .unset, .unset, .unset, .unset, .unset, .unset, .unset, .unset, .unset, .unset, .unset, .unset] [(.int (3 : Int32)), (.int (3 : Int32)), (.ref b34), (.ref b34)])) rfl rfl (hb hby at_44)
  refine OG.step st105 ?_
  have Va105 := Arv.set Ar104 qa_104 Sa_104 Nn_104 Ha_104 Ga_104 rfl W105 (3) (by decide) (Nat.le_of_ble_eq_true rfl)
  have V105 : Arv Z h105 b34 k34 .int (4 : Int32) [(.int (0 : Int32)), (.int (1 : Int32)), (.int (2 : Int32)), (.int (3 : Int32))] (.int (0 : Int32)) := Va105
  have f106 := f88.wr W105
  have f107 := f89.other W105 ne34_b3
  have f108 := f90.other W105 (Or.inl ne34_b1)
  have f109 := f91.other W105 ne34_gs_8
  have f110 := f92.wr W105
  have f111 := f93.other W105 (Or.inl ne34_b15)
  have f112 := f94.other W105 (Or.inl ne34_b15)
  have f113 := f95.other W105 (Or.inl ne34_b15)
  have f114 := f96.other W105 (Or.inl ne34_b15)
  have f115 := f97.other W105 (Or.inl ne34_b15)
  have f116 := f98.other W105 ne34_ap_21
  have f117 := f99.other W105 ne34_az_21
  have f118 := f100.other W105 ne34_an_21
  have f119 := f101.other W105 ne34_al_21
  have K105 := K87.wr W105 (Or.inr sz34)
  have N105 := Fr.snoc X105 N87 ge34
  obtain ⟨Lz120, X105, N105⟩ : ∃ Lz, Stand p l e room_1 s m #[(.int p0), (.int p1), (.int p2), (.int p3), (.int p4)] below meth c T105 Lz 13 41 ∧ Fr n0 Lz := ⟨_, X105, N105⟩
  show OG _ _ _ _ _ _ _ (T105.setTop (mkF m 45 #[.val (.int p0), .val (.int p1), .val (.int p2), .val (.int p3), .val (.int p4), .val (.ref b1), .val (.ref b15), .unset, .unset, .unset, .unset, .unset, .unset, .unset, .unset, .unset, .unset, .unset, .unset, .unset, .unset, .unset, .unset] [(.ref b34)]))
  have Vlab : Arv Z h105 b34 k34 .int (4 : Int32) (own_vl [0, 1, 2, 3]) (.int (0 : Int32)) := V105
  have s121 : ∀ tz, Steps p.tables e below (T105.setTop (mkF m 48 #[.val (.int p0), .val (.int p1), .val (.int p2), .val (.int p3), .val (.int p4), .val (.ref b1), .val (.ref b15), .val (.ref b34), .unset, .unset, .unset, .unset, .unset, .unset, .unset, .unset, .unset, .unset, .unset, .unset, .unset, .unset, .unset] [(.int (4 : Int32))])) tz → Steps p.tables e below (T105.setTop (mkF m 45 #[.val (.int p0), .val (.int p1), .val (.int p2), .val (.int p3), .val (.int p4), .val (.ref b1), .val (.ref b15), .unset, .unset, .unset, .unset, .unset, .unset, .unset, .unset, .unset, .unset, .unset, .unset, .unset, .unset, .unset, .unset] [(.ref b34)])) tz := by
    intro tz kz
    refine XS.astore X105.here hx rfl (hb hby at_45) rfl rfl (l' := #[.val (.int p0), .val (.int p1), .val (.int p2), .val (.int p3), .val (.int p4), .val (.ref b1), .val (.ref b15), .val (.ref b34), .unset, .unset, .unset, .unset, .unset, .unset, .unset, .unset, .unset, .unset, .unset, .unset, .unset, .unset, .unset]) rfl ?_
    refine XS.iconst X105.here hx rfl (hb hby at_47) ?_
    exact kz
  refine OG.step s121 ?_
  obtain ⟨T122, h122, k122, X122, e122, E122, A122, st122⟩ := newP X105 hx hZ (hw _ (List.mem_of_getElem? (i := 10) rfl)) e105 (g := (mkF m 48 #[.val (.int p0), .val (.int p1), .val (.int p2), .val (.int p3), .val (.int p4), .val (.ref b1), .val (.ref b15), .val (.ref b34), .unset, .unset, .unset, .unset, .unset, .unset, .unset, .unset, .unset, .unset, .unset, .unset, .unset, .unset, .unset] [(.int (4 : Int32))])) rfl (hb hby at_48) rfl (by decide) (cap := 4) (by decide) (by decide) (by decide) (by decide)
  obtain ⟨b122, g122⟩ : ∃ z, z = h105.size := ⟨_, rfl⟩
  rw [← g122] at A122 st122
  have sz122 : h0.size ≤ b122 := Nat.le_trans K105.1 (Nat.le_of_eq g122.symm)
  have ge122 : n0 ≤ b122 := Nat.le_trans Z0 sz122
  have ne122_b1 : b1 ≠ b122 := Nat.ne_of_lt (Nat.lt_of_lt_of_le f106.lt (Nat.le_of_eq g122.symm))
  have ne122_b3 : b3 ≠ b122 := Nat.ne_of_lt (Nat.lt_of_lt_of_le f107.lt (Nat.le_of_eq g122.symm))
  have ne122_gs_8 : gs_8 ≠ b122 := Nat.ne_of_lt (Nat.lt_of_lt_of_le f109.lt (Nat.le_of_eq g122.symm))
  have ne122_b15 : b15 ≠ b122 := Nat.ne_of_lt (Nat.lt_of_lt_of_le f110.lt (Nat.le_of_eq g122.symm))
  have ne122_ap_21 : ap_21 ≠ b122 := Nat.ne_of_lt (Nat.lt_of_lt_of_le f116.lt (Nat.le_of_eq g122.symm))
  have ne122_az_21 : az_21 ≠ b122 := Nat.ne_of_lt (Nat.lt_of_lt_of_le f117.lt (Nat.le_of_eq g122.symm))
  have ne122_an_21 : an_21 ≠ b122 := Nat.ne_of_lt (Nat.lt_of_lt_of_le f118.lt (Nat.le_of_eq g122.symm))
  have ne122_al_21 : al_21 ≠ b122 := Nat.ne_of_lt (Nat.lt_of_lt_of_le f119.lt (Nat.le_of_eq g122.symm))
  have ne122_b34 : b34 ≠ b122 := Nat.ne_of_lt (Nat.lt_of_lt_of_le Vlab.lt (Nat.le_of_eq g122.symm))
  refine OG.step st122 ?_
  have f123 := f106.ext E122
  have f124 := f107.ext E122
  have f125 := f108.ext E122
  have f126 := f109.ext E122
  have f127 := f110.ext E122
  have f128 := f111.ext E122
  have f129 := f112.ext E122
  have f130 := f113.ext E122
  have f131 := f114.ext E122
  have f132 := f115.ext E122
  have f133 := f116.ext E122
  have f134 := f117.ext E122
  have f135 := f118.ext E122
  have f136 := f119.ext E122
  have f137 := Vlab.ext E122
  have V122 : Arv Z h122 b122 k122 .int (4 : Int32) [(.int (0 : Int32)), (.int (0 : Int32)), (.int (0 : Int32)), (.int (0 : Int32))] (.int (0 : Int32)) := (Arv.new A122 (by decide)).pad (pad_rep [] (.int (0 : Int32)) 4)
  have K122 := K105.ext E122
  show OG _ _ _ _ _ _ _ (T122.setTop (mkF m 50 #[.val (.int p0), .val (.int p1), .val (.int p2), .val (.int p3), .val (.int p4), .val (.ref b1), .val (.ref b15), .val (.ref b34), .unset, .unset, .unset, .unset, .unset, .unset, .unset, .unset, .unset, .unset, .unset, .unset, .unset, .unset, .unset] [(.ref b122)]))
  have Vr : Arv Z h122 b122 k122 .int (4 : Int32) (own_vl [0, 0, 0, 0]) (.int (0 : Int32)) := V122
  have s138 : ∀ tz, Steps p.tables e below (T122.setTop (mkF m 88 #[.val (.int p0), .val (.int p1), .val (.int p2), .val (.int p3), .val (.int p4), .val (.ref b1), .val (.ref b15), .val (.ref b34), .val (.ref b122), .val (.int (p0 &&& (3 : Int32))), .val (.int (((p0.toUInt32 >>> ((2 : Int32) &&& 31).toUInt32).toInt32) &&& (3 : Int32))), .val (.int (p1 &&& (3 : Int32))), .val (.int (((p1.toUInt32 >>> ((2 : Int32) &&& 31).toUInt32).toInt32) &&& (3 : Int32))), .val (.int (p2 &&& (3 : Int32))), .val (.int (((p2.toUInt32 >>> ((2 : Int32) &&& 31).toUInt32).toInt32) &&& (3 : Int32))), .unset, .unset, .unset, .unset, .unset, .unset, .unset, .unset] [])) tz → Steps p.tables e below (T122.setTop (mkF m 50 #[.val (.int p0), .val (.int p1), .val (.int p2), .val (.int p3), .val (.int p4), .val (.ref b1), .val (.ref b15), .val (.ref b34), .unset, .unset, .unset, .unset, .unset, .unset, .unset, .unset, .unset, .unset, .unset, .unset, .unset, .unset, .unset] [(.ref b122)])) tz := by
    intro tz kz
    refine XS.astore X122.here hx rfl (hb hby at_50) rfl rfl (l' := #[.val (.int p0), .val (.int p1), .val (.int p2), .val (.int p3), .val (.int p4), .val (.ref b1), .val (.ref b15), .val (.ref b34), .val (.ref b122), .unset, .unset, .unset, .unset, .unset, .unset, .unset, .unset, .unset, .unset, .unset, .unset, .unset, .unset]) rfl ?_
    refine XS.iloadN X122.here hx rfl (hb hby at_52) rfl ?_
    refine XS.iconst X122.here hx rfl (hb hby at_53) ?_
    refine XS.iand X122.here hx rfl (hb hby at_54) rfl ?_
    refine XS.istore X122.here hx rfl (hb hby at_55) rfl (l' := #[.val (.int p0), .val (.int p1), .val (.int p2), .val (.int p3), .val (.int p4), .val (.ref b1), .val (.ref b15), .val (.ref b34), .val (.ref b122), .val (.int (p0 &&& (3 : Int32))), .unset, .unset, .unset, .unset, .unset, .unset, .unset, .unset, .unset, .unset, .unset, .unset, .unset]) rfl ?_
    show Steps p.tables e below (T122.setTop (mkF m 57 #[.val (.int p0), .val (.int p1), .val (.int p2), .val (.int p3), .val (.int p4), .val (.ref b1), .val (.ref b15), .val (.ref b34), .val (.ref b122), .val (.int (p0 &&& (3 : Int32))), .unset, .unset, .unset, .unset, .unset, .unset, .unset, .unset, .unset, .unset, .unset, .unset, .unset] [])) _
    refine XS.iloadN X122.here hx rfl (hb hby at_57) rfl ?_
    refine XS.iconst X122.here hx rfl (hb hby at_58) ?_
    refine XS.iushr X122.here hx rfl (hb hby at_59) rfl ?_
    refine XS.iconst X122.here hx rfl (hb hby at_60) ?_
    refine XS.iand X122.here hx rfl (hb hby at_61) rfl ?_
    show Steps p.tables e below (T122.setTop (mkF m 62 #[.val (.int p0), .val (.int p1), .val (.int p2), .val (.int p3), .val (.int p4), .val (.ref b1), .val (.ref b15), .val (.ref b34), .val (.ref b122), .val (.int (p0 &&& (3 : Int32))), .unset, .unset, .unset, .unset, .unset, .unset, .unset, .unset, .unset, .unset, .unset, .unset, .unset] [(.int (((p0.toUInt32 >>> ((2 : Int32) &&& 31).toUInt32).toInt32) &&& (3 : Int32)))])) _
    refine XS.istore X122.here hx rfl (hb hby at_62) rfl (l' := #[.val (.int p0), .val (.int p1), .val (.int p2), .val (.int p3), .val (.int p4), .val (.ref b1), .val (.ref b15), .val (.ref b34), .val (.ref b122), .val (.int (p0 &&& (3 : Int32))), .val (.int (((p0.toUInt32 >>> ((2 : Int32) &&& 31).toUInt32).toInt32) &&& (3 : Int32))), .unset, .unset, .unset, .unset, .unset, .unset, .unset, .unset, .unset, .unset, .unset, .unset]) rfl ?_
    refine XS.iloadN X122.here hx rfl (hb hby at_64) rfl ?_
    refine XS.iconst X122.here hx rfl (hb hby at_65) ?_
    refine XS.iand X122.here hx rfl (hb hby at_66) rfl ?_
    refine XS.istore X122.here hx rfl (hb hby at_67) rfl (l' := #[.val (.int p0), .val (.int p1), .val (.int p2), .val (.int p3), .val (.int p4), .val (.ref b1), .val (.ref b15), .val (.ref b34), .val (.ref b122), .val (.int (p0 &&& (3 : Int32))), .val (.int (((p0.toUInt32 >>> ((2 : Int32) &&& 31).toUInt32).toInt32) &&& (3 : Int32))), .val (.int (p1 &&& (3 : Int32))), .unset, .unset, .unset, .unset, .unset, .unset, .unset, .unset, .unset, .unset, .unset]) rfl ?_
    show Steps p.tables e below (T122.setTop (mkF m 69 #[.val (.int p0), .val (.int p1), .val (.int p2), .val (.int p3), .val (.int p4), .val (.ref b1), .val (.ref b15), .val (.ref b34), .val (.ref b122), .val (.int (p0 &&& (3 : Int32))), .val (.int (((p0.toUInt32 >>> ((2 : Int32) &&& 31).toUInt32).toInt32) &&& (3 : Int32))), .val (.int (p1 &&& (3 : Int32))), .unset, .unset, .unset, .unset, .unset, .unset, .unset, .unset, .unset, .unset, .unset] [])) _
    refine XS.iloadN X122.here hx rfl (hb hby at_69) rfl ?_
    refine XS.iconst X122.here hx rfl (hb hby at_70) ?_
    refine XS.iushr X122.here hx rfl (hb hby at_71) rfl ?_
    refine XS.iconst X122.here hx rfl (hb hby at_72) ?_
    refine XS.iand X122.here hx rfl (hb hby at_73) rfl ?_
    show Steps p.tables e below (T122.setTop (mkF m 74 #[.val (.int p0), .val (.int p1), .val (.int p2), .val (.int p3), .val (.int p4), .val (.ref b1), .val (.ref b15), .val (.ref b34), .val (.ref b122), .val (.int (p0 &&& (3 : Int32))), .val (.int (((p0.toUInt32 >>> ((2 : Int32) &&& 31).toUInt32).toInt32) &&& (3 : Int32))), .val (.int (p1 &&& (3 : Int32))), .unset, .unset, .unset, .unset, .unset, .unset, .unset, .unset, .unset, .unset, .unset] [(.int (((p1.toUInt32 >>> ((2 : Int32) &&& 31).toUInt32).toInt32) &&& (3 : Int32)))])) _
    refine XS.istore X122.here hx rfl (hb hby at_74) rfl (l' := #[.val (.int p0), .val (.int p1), .val (.int p2), .val (.int p3), .val (.int p4), .val (.ref b1), .val (.ref b15), .val (.ref b34), .val (.ref b122), .val (.int (p0 &&& (3 : Int32))), .val (.int (((p0.toUInt32 >>> ((2 : Int32) &&& 31).toUInt32).toInt32) &&& (3 : Int32))), .val (.int (p1 &&& (3 : Int32))), .val (.int (((p1.toUInt32 >>> ((2 : Int32) &&& 31).toUInt32).toInt32) &&& (3 : Int32))), .unset, .unset, .unset, .unset, .unset, .unset, .unset, .unset, .unset, .unset]) rfl ?_
    refine XS.iloadN X122.here hx rfl (hb hby at_76) rfl ?_
    refine XS.iconst X122.here hx rfl (hb hby at_77) ?_
    refine XS.iand X122.here hx rfl (hb hby at_78) rfl ?_
    refine XS.istore X122.here hx rfl (hb hby at_79) rfl (l' := #[.val (.int p0), .val (.int p1), .val (.int p2), .val (.int p3), .val (.int p4), .val (.ref b1), .val (.ref b15), .val (.ref b34), .val (.ref b122), .val (.int (p0 &&& (3 : Int32))), .val (.int (((p0.toUInt32 >>> ((2 : Int32) &&& 31).toUInt32).toInt32) &&& (3 : Int32))), .val (.int (p1 &&& (3 : Int32))), .val (.int (((p1.toUInt32 >>> ((2 : Int32) &&& 31).toUInt32).toInt32) &&& (3 : Int32))), .val (.int (p2 &&& (3 : Int32))), .unset, .unset, .unset, .unset, .unset, .unset, .unset, .unset, .unset]) rfl ?_
    show Steps p.tables e below (T122.setTop (mkF m 81 #[.val (.int p0), .val (.int p1), .val (.int p2), .val (.int p3), .val (.int p4), .val (.ref b1), .val (.ref b15), .val (.ref b34), .val (.ref b122), .val (.int (p0 &&& (3 : Int32))), .val (.int (((p0.toUInt32 >>> ((2 : Int32) &&& 31).toUInt32).toInt32) &&& (3 : Int32))), .val (.int (p1 &&& (3 : Int32))), .val (.int (((p1.toUInt32 >>> ((2 : Int32) &&& 31).toUInt32).toInt32) &&& (3 : Int32))), .val (.int (p2 &&& (3 : Int32))), .unset, .unset, .unset, .unset, .unset, .unset, .unset, .unset, .unset] [])) _
    refine XS.iloadN X122.here hx rfl (hb hby at_81) rfl ?_
    refine XS.iconst X122.here hx rfl (hb hby at_82) ?_
    refine XS.iushr X122.here hx rfl (hb hby at_83) rfl ?_
    refine XS.iconst X122.here hx rfl (hb hby at_84) ?_
    refine XS.iand X122.here hx rfl (hb hby at_85) rfl ?_
    show Steps p.tables e below (T122.setTop (mkF m 86 #[.val (.int p0), .val (.int p1), .val (.int p2), .val (.int p3), .val (.int p4), .val (.ref b1), .val (.ref b15), .val (.ref b34), .val (.ref b122), .val (.int (p0 &&& (3 : Int32))), .val (.int (((p0.toUInt32 >>> ((2 : Int32) &&& 31).toUInt32).toInt32) &&& (3 : Int32))), .val (.int (p1 &&& (3 : Int32))), .val (.int (((p1.toUInt32 >>> ((2 : Int32) &&& 31).toUInt32).toInt32) &&& (3 : Int32))), .val (.int (p2 &&& (3 : Int32))), .unset, .unset, .unset, .unset, .unset, .unset, .unset, .unset, .unset] [(.int (((p2.toUInt32 >>> ((2 : Int32) &&& 31).toUInt32).toInt32) &&& (3 : Int32)))])) _
    refine XS.istore X122.here hx rfl (hb hby at_86) rfl (l' := #[.val (.int p0), .val (.int p1), .val (.int p2), .val (.int p3), .val (.int p4), .val (.ref b1), .val (.ref b15), .val (.ref b34), .val (.ref b122), .val (.int (p0 &&& (3 : Int32))), .val (.int (((p0.toUInt32 >>> ((2 : Int32) &&& 31).toUInt32).toInt32) &&& (3 : Int32))), .val (.int (p1 &&& (3 : Int32))), .val (.int (((p1.toUInt32 >>> ((2 : Int32) &&& 31).toUInt32).toInt32) &&& (3 : Int32))), .val (.int (p2 &&& (3 : Int32))), .val (.int (((p2.toUInt32 >>> ((2 : Int32) &&& 31).toUInt32).toInt32) &&& (3 : Int32))), .unset, .unset, .unset, .unset, .unset, .unset, .unset, .unset]) rfl ?_
    exact kz
  refine OG.step s138 ?_
  obtain ⟨c0, hc_0, ec0⟩ := own_small p0
  rw [ec0]
  obtain ⟨c1, hc_1, ec1⟩ := own_small ((p0.toUInt32 >>> ((2 : Int32) &&& 31).toUInt32).toInt32)
  rw [ec1]
  obtain ⟨c2, hc_2, ec2⟩ := own_small p1
  rw [ec2]
  obtain ⟨c3, hc_3, ec3⟩ := own_small ((p1.toUInt32 >>> ((2 : Int32) &&& 31).toUInt32).toInt32)
  rw [ec3]
  obtain ⟨c4, hc_4, ec4⟩ := own_small p2
  rw [ec4]
  obtain ⟨c5, hc_5, ec5⟩ := own_small ((p2.toUInt32 >>> ((2 : Int32) &&& 31).toUInt32).toInt32)
  rw [ec5]
  have hR0 : ((([0, 1, 2, 3], [1, 1, 1, 1], [0, 0, 0, 0], [0, 1, 2, 3]) : own_S), [0, 1, 2, 3]) ∈ own_R0 := by decide
  show OG _ _ _ _ _ _ _ (T122.setTop (mkF m 88 #[.val (.int p0), .val (.int p1), .val (.int p2), .val (.int p3), .val (.int p4), .val (.ref b1), .val (.ref b15), .val (.ref b34), .val (.ref b122), .val (.int (Int32.ofNat c0)), .val (.int (Int32.ofNat c1)), .val (.int (Int32.ofNat c2)), .val (.int (Int32.ofNat c3)), .val (.int (Int32.ofNat c4)), .val (.int (Int32.ofNat c5)), .unset, .unset, .unset, .unset, .unset, .unset, .unset, .unset] []))
  have s139 : ∀ tz, Steps p.tables e below (T122.setTop (mkF m 94 #[.val (.int p0), .val (.int p1), .val (.int p2), .val (.int p3), .val (.int p4), .val (.ref b1), .val (.ref b15), .val (.ref b34), .val (.ref b122), .val (.int (Int32.ofNat c0)), .val (.int (Int32.ofNat c1)), .val (.int (Int32.ofNat c2)), .val (.int (Int32.ofNat c3)), .val (.int (Int32.ofNat c4)), .val (.int (Int32.ofNat c5)), .unset, .unset, .unset, .unset, .unset, .unset, .unset, .unset] [(.int (Int32.ofNat c1)), (.int (Int32.ofNat c0)), (.ref b15)])) tz → Steps p.tables e below (T122.setTop (mkF m 88 #[.val (.int p0), .val (.int p1), .val (.int p2), .val (.int p3), .val (.int p4), .val (.ref b1), .val (.ref b15), .val (.ref b34), .val (.ref b122), .val (.int (Int32.ofNat c0)), .val (.int (Int32.ofNat c1)), .val (.int (Int32.ofNat c2)), .val (.int (Int32.ofNat c3)), .val (.int (Int32.ofNat c4)), .val (.int (Int32.ofNat c5)), .unset, .unset, .unset, .unset, .unset, .unset, .unset, .unset] [])) tz := by
    intro tz kz
    refine XS.aload X122.here hx rfl (hb hby at_88) rfl rfl ?_
    refine XS.iload X122.here hx rfl (hb hby at_90) rfl ?_
    refine XS.iload X122.here hx rfl (hb hby at_92) rfl ?_
    exact kz
  refine OG.step s139 ?_
  have ht0 := own_s0 hc_0 hc_1 hR0
  obtain ⟨cq140, kq140, q140a, q140b, q140c⟩ := isOf hZ e122 f127
  obtain ⟨_, _, ⟨T140, L140, k140, n140⟩, -, X140, ⟨Lc140, hQ140, l140, y140, z140⟩, st140⟩ := X122.virtualBack hx (y := (⟨"com/example/tidegraph/tidegraph/amd64/LiveRanges", "join", "(II)V"⟩ : MethodName)) (z := (⟨"com/example/tidegraph/tidegraph/amd64/LiveRanges", "join", "(II)V"⟩ : MethodName)) hown (mvT hZ (hw _ (List.mem_of_getElem? (i := 56) rfl))) (mvT hZ (hw _ (List.mem_of_getElem? (i := 57) rfl))) (notFace_of_selects (args := #[]) (mvT hZ (hw _ (List.mem_of_getElem? (i := 59) rfl)))) (mvT hZ (hw _ (List.mem_of_getElem? (i := 59) rfl))) (mvT hZ (hw _ (List.mem_of_getElem? (i := 58) rfl))) (by decide) (backOf (W := 0) (rm7 l Z a0 hw [] b15 c0 c1 b1 gs_8 ks_8 ap_21 az_21 an_21 al_21 kp_21 kz_21 kn_21 kl_21 [0, 1, 2, 3] [1, 1, 1, 1] [0, 0, 0, 0] [0, 1, 2, 3] h122 n0 (Nat.le_trans Z0 K122.1) f127 f128 f123 f125 f126 f129 f130 f131 f132 f133 f134 f135 f136 (Ne.symm ne15_b1) (Ne.symm ne15_gs_8) ne21_b15_ap_21 ne21_b15_az_21 ne21_b15_an_21 ne21_b15_al_21 ne8_b1_gs_8 ne21_b1_ap_21 ne21_b1_az_21 ne21_b1_an_21 ne21_b1_al_21 ne21_gs_8_ap_21 ne21_gs_8_az_21 ne21_gs_8_an_21 ne21_gs_8_al_21 u21_4 u21_5 u21_6 u21_7 u21_8 u21_9 ge21_ap_21 ge21_az_21 ge21_an_21 ge21_al_21 hc_0 hc_1 ht0.1) hZ (hw _ (List.mem_of_getElem? (i := 60) rfl)) (hw _ (List.mem_of_getElem? (i := 41) rfl)) (by decide) (by decide)) q140a q140c (g := (mkF m 94 #[.val (.int p0), .val (.int p1), .val (.int p2), .val (.int p3), .val (.int p4), .val (.ref b1), .val (.ref b15), .val (.ref b34), .val (.ref b122), .val (.int (Int32.ofNat c0)), .val (.int (Int32.ofNat c1)), .val (.int (Int32.ofNat c2)), .val (.int (Int32.ofNat c3)), .val (.int (Int32.ofNat c4)), .val (.int (Int32.ofNat c5)), .unset, .unset, .unset, .unset, .unset, .unset, .unset, .unset] [(.int (Int32.ofNat c1)), (.int (Int32.ofNat c0)), (.ref b15)])) rfl (by rw [hml]; rfl) (Steps.refl _) (argsL := [(.int (Int32.ofNat c0)), (.int (Int32.ofNat c1))]) (rest := []) (lenOf pd__II_V rfl) rfl (by show 2 * 0 + _ ≤ _; exact Nat.le_of_eq rfl) (hb hby at_94) (fun _ _ => ⟨rfl, e122, (by decide : 14 + 0 ≤ _), (by decide : 45 + 0 ≤ _)⟩)
  dsimp only [Pt.U, Pt.locs, Pt.cells, Pt.slots] at X140 l140 y140 z140 st140 hQ140
  subst l140 y140 z140
  obtain ⟨Pa2_140, Sz2_140, Nx2_140, La2_140, rfl, N140q, Kc140, p140_0, p140_1, p140_2, p140_3, u140_0⟩ := hQ140
  have N140 := Fr.app N105 N140q
  refine OG.step (fun tz kz => st140.trans kz) ?_
  have f141 := f123.keep Kc140
  have f142 := f124.keep Kc140 (ninS ne21_b3_ap_21 (ninS ne21_b3_az_21 (ninS ne21_b3_an_21 (ninS ne21_b3_al_21 nin0))))
  have f143 := f125.keep Kc140 (ninS ne21_b1_ap_21 (ninS ne21_b1_az_21 (ninS ne21_b1_an_21 (ninS ne21_b1_al_21 nin0))))
  have f144 := f126.keep Kc140 (ninS ne21_gs_8_ap_21 (ninS ne21_gs_8_az_21 (ninS ne21_gs_8_an_21 (ninS ne21_gs_8_al_21 nin0))))
  have f145 := f127.keep Kc140
  have f146 := f128.keep Kc140 (ninS ne21_b15_ap_21 (ninS ne21_b15_az_21 (ninS ne21_b15_an_21 (ninS ne21_b15_al_21 nin0))))
  have f147 := f129.keep Kc140 (ninS ne21_b15_ap_21 (ninS ne21_b15_az_21 (ninS ne21_b15_an_21 (ninS ne21_b15_al_21 nin0))))
  have f148 := f130.keep Kc140 (ninS ne21_b15_ap_21 (ninS ne21_b15_az_21 (ninS ne21_b15_an_21 (ninS ne21_b15_al_21 nin0))))
  have f149 := f131.keep Kc140 (ninS ne21_b15_ap_21 (ninS ne21_b15_az_21 (ninS ne21_b15_an_21 (ninS ne21_b15_al_21 nin0))))
  have f150 := f132.keep Kc140 (ninS ne21_b15_ap_21 (ninS ne21_b15_az_21 (ninS ne21_b15_an_21 (ninS ne21_b15_al_21 nin0))))
  have f155 := f137.keep Kc140 (ninS (Ne.symm ne34_ap_21) (ninS (Ne.symm ne34_az_21) (ninS (Ne.symm ne34_an_21) (ninS (Ne.symm ne34_al_21) nin0))))
  have f156 := Vr.keep Kc140 (ninS (Ne.symm ne122_ap_21) (ninS (Ne.symm ne122_az_21) (ninS (Ne.symm ne122_an_21) (ninS (Ne.symm ne122_al_21) nin0))))
  have K140 := K122.trans Kc140 (allS (Or.inr sz21_ap_21) (allS (Or.inr sz21_az_21) (allS (Or.inr sz21_an_21) (allS (Or.inr sz21_al_21) all0))))
  obtain ⟨Lz157, X140, N140⟩ : ∃ Lz, Stand p l e room_1 s m #[(.int p0), (.int p1), (.int p2), (.int p3), (.int p4)] below meth c T140 Lz 14 45 ∧ Fr n0 Lz := ⟨_, X140, N140⟩
  show OG _ _ _ _ _ _ _ (T140.setTop (mkF m 97 #[.val (.int p0), .val (.int p1), .val (.int p2), .val (.int p3), .val (.int p4), .val (.ref b1), .val (.ref b15), .val (.ref b34), .val (.ref b122), .val (.int (Int32.ofNat c0)), .val (.int (Int32.ofNat c1)), .val (.int (Int32.ofNat c2)), .val (.int (Int32.ofNat c3)), .val (.int (Int32.ofNat c4)), .val (.int (Int32.ofNat c5)), .unset, .unset, .unset, .unset, .unset, .unset, .unset, .unset] []))
  have s158 : ∀ tz, Steps p.tables e below (T140.setTop (mkF m 103 #[.val (.int p0), .val (.int p1), .val (.int p2), .val (.int p3), .val (.int p4), .val (.ref b1), .val (.ref b15), .val (.ref b34), .val (.ref b122), .val (.int (Int32.ofNat c0)), .val (.int (Int32.ofNat c1)), .val (.int (Int32.ofNat c2)), .val (.int (Int32.ofNat c3)), .val (.int (Int32.ofNat c4)), .val (.int (Int32.ofNat c5)), .unset, .unset, .unset, .unset, .unset, .unset, .unset, .unset] [(.int (Int32.ofNat c1)), (.int (Int32.ofNat c0)), (.ref b34)])) tz → Steps p.tables e below (T140.setTop (mkF m 97 #[.val (.int p0), .val (.int p1), .val (.int p2), .val (.int p3), .val (.int p4), .val (.ref b1), .val (.ref b15), .val (.ref b34), .val (.ref b122), .val (.int (Int32.ofNat c0)), .val (.int (Int32.ofNat c1)), .val (.int (Int32.ofNat c2)), .val (.int (Int32.ofNat c3)), .val (.int (Int32.ofNat c4)), .val (.int (Int32.ofNat c5)), .unset, .unset, .unset, .unset, .unset, .unset, .unset, .unset] [])) tz := by
    intro tz kz
    refine XS.aload X140.here hx rfl (hb hby at_97) rfl rfl ?_
    refine XS.iload X140.here hx rfl (hb hby at_99) rfl ?_
    refine XS.iload X140.here hx rfl (hb hby at_101) rfl ?_
    exact kz
  refine OG.step s158 ?_
  obtain ⟨_, _, ⟨T159, L159, k159, n159⟩, -, X159, ⟨Lc159, hQ159, l159, y159, z159⟩, st159⟩ := Jvm.LawKit.callS X140 hx (y := (⟨"com/example/tidegraph/tidegraph/amd64/LiveRangesFindPinLaw", "relabel", "([III)V"⟩ : MethodName)) hown (mvT hZ (hw _ (List.mem_of_getElem? (i := 66) rfl))) (mvT hZ (hw _ (List.mem_of_getElem? (i := 67) rfl))) (mvT hZ (hw _ (List.mem_of_getElem? (i := 68) rfl))) (mvT hZ (hw _ (List.mem_of_getElem? (i := 69) rfl))) (by decide) (backOf (W := 0) (rm9 l Z a0 hw [] b34 c0 c1 k34 [0, 1, 2, 3] T140.heap n0 (Nat.le_trans Z0 K140.1) f155 ge34 ht0.2.1 hc_0 hc_1) hZ (hw _ (List.mem_of_getElem? (i := 69) rfl)) (hw _ (List.mem_of_getElem? (i := 68) rfl)) (by decide) (by decide)) (g := (mkF m 103 #[.val (.int p0), .val (.int p1), .val (.int p2), .val (.int p3), .val (.int p4), .val (.ref b1), .val (.ref b15), .val (.ref b34), .val (.ref b122), .val (.int (Int32.ofNat c0)), .val (.int (Int32.ofNat c1)), .val (.int (Int32.ofNat c2)), .val (.int (Int32.ofNat c3)), .val (.int (Int32.ofNat c4)), .val (.int (Int32.ofNat c5)), .unset, .unset, .unset, .unset, .unset, .unset, .unset, .unset] [(.int (Int32.ofNat c1)), (.int (Int32.ofNat c0)), (.ref b34)])) rfl (by rw [hml]; rfl) (argsL := [(.ref b34), (.int (Int32.ofNat c0)), (.int (Int32.ofNat c1))]) (rest := []) (lenOf pd___III_V rfl) rfl (by show 2 * 0 + _ ≤ _; exact Nat.le_of_eq rfl) (hb hby at_103) (fun _ _ => ⟨rfl, rfl, (by decide : 14 + 0 ≤ _), (by decide : 45 + 0 ≤ _)⟩)
  dsimp only [Pt.U, Pt.locs, Pt.cells, Pt.slots] at X159 l159 y159 z159 st159 hQ159
  subst l159 y159 z159
  obtain ⟨rfl, N159q, Kc159, p159_0⟩ := hQ159
  have N159 := Fr.app N140 N159q
  refine OG.step st159 ?_
  have f160 := f141.keep Kc159
  have f161 := f142.keep Kc159 (ninS ne34_b3 nin0)
  have f162 := f143.keep Kc159 (ninS ne34_b1 nin0)
  have f163 := f144.keep Kc159 (ninS ne34_gs_8 nin0)
  have f164 := f145.keep Kc159
  have f165 := f146.keep Kc159 (ninS ne34_b15 nin0)
  have f166 := f147.keep Kc159 (ninS ne34_b15 nin0)
  have f167 := f148.keep Kc159 (ninS ne34_b15 nin0)
  have f168 := f149.keep Kc159 (ninS ne34_b15 nin0)
  have f169 := f150.keep Kc159 (ninS ne34_b15 nin0)
  have f171 := f156.keep Kc159 (ninS (Ne.symm ne122_b34) nin0)
  have f172 := p140_0.keep Kc159 (ninS ne34_ap_21 nin0)
  have f173 := p140_1.keep Kc159 (ninS ne34_az_21 nin0)
  have f174 := p140_2.keep Kc159 (ninS ne34_an_21 nin0)
  have f175 := p140_3.keep Kc159 (ninS ne34_al_21 nin0)
  have K159 := K140.trans Kc159 (allS (Or.inr sz34) all0)
  obtain ⟨Lz176, X159, N159⟩ : ∃ Lz, Stand p l e room_1 s m #[(.int p0), (.int p1), (.int p2), (.int p3), (.int p4)] below meth c T159 Lz 14 45 ∧ Fr n0 Lz := ⟨_, X159, N159⟩
  have hR1 := ht0.2.2 _ _ _ _ u140_0
  show OG _ _ _ _ _ _ _ (T159.setTop (mkF m 106 #[.val (.int p0), .val (.int p1), .val (.int p2), .val (.int p3), .val (.int p4), .val (.ref b1), .val (.ref b15), .val (.ref b34), .val (.ref b122), .val (.int (Int32.ofNat c0)), .val (.int (Int32.ofNat c1)), .val (.int (Int32.ofNat c2)), .val (.int (Int32.ofNat c3)), .val (.int (Int32.ofNat c4)), .val (.int (Int32.ofNat c5)), .unset, .unset, .unset, .unset, .unset, .unset, .unset, .unset] []))
  have s177 : ∀ tz, Steps p.tables e below (T159.setTop (mkF m 112 #[.val (.int p0), .val (.int p1), .val (.int p2), .val (.int p3), .val (.int p4), .val (.ref b1), .val (.ref b15), .val (.ref b34), .val (.ref b122), .val (.int (Int32.ofNat c0)), .val (.int (Int32.ofNat c1)), .val (.int (Int32.ofNat c2)), .val (.int (Int32.ofNat c3)), .val (.int (Int32.ofNat c4)), .val (.int (Int32.ofNat c5)), .unset, .unset, .unset, .unset, .unset, .unset, .unset, .unset] [(.int (Int32.ofNat c3)), (.int (Int32.ofNat c2)), (.ref b15)])) tz → Steps p.tables e below (T159.setTop (mkF m 106 #[.val (.int p0), .val (.int p1), .val (.int p2), .val (.int p3), .val (.int p4), .val (.ref b1), .val (.ref b15), .val (.ref b34), .val (.ref b122), .val (.int (Int32.ofNat c0)), .val (.int (Int32.ofNat c1)), .val (.int (Int32.ofNat c2)), .val (.int (Int32.ofNat c3)), .val (.int (Int32.ofNat c4)), .val (.int (Int32.ofNat c5)), .unset, .unset, .unset, .unset, .unset, .unset, .unset, .unset] [])) tz := by
    intro tz kz
    refine XS.aload X159.here hx rfl (hb hby at_106) rfl rfl ?_
    refine XS.iload X159.here hx rfl (hb hby at_108) rfl ?_
    refine XS.iload X159.here hx rfl (hb hby at_110) rfl ?_
    exact kz
  refine OG.step s177 ?_
  have ht1 := own_s1 hc_2 hc_3 hR1
  obtain ⟨cq178, kq178, q178a, q178b, q178c⟩ := isOf hZ rfl f164
  obtain ⟨_, _, ⟨T178, L178, k178, n178⟩, -, X178, ⟨Lc178, hQ178, l178, y178, z178⟩, st178⟩ := X159.virtualBack hx (y := (⟨"com/example/tidegraph/tidegraph/amd64/LiveRanges", "join", "(II)V"⟩ : MethodName)) (z := (⟨"com/example/tidegraph/tidegraph/amd64/LiveRanges", "join", "(II)V"⟩ : MethodName)) hown (mvT hZ (hw _ (List.mem_of_getElem? (i := 56) rfl))) (mvT hZ (hw _ (List.mem_of_getElem? (i := 57) rfl))) (notFace_of_selects (args := #[]) (mvT hZ (hw _ (List.mem_of_getElem? (i := 59) rfl)))) (mvT hZ (hw _ (List.mem_of_getElem? (i := 59) rfl))) (mvT hZ (hw _ (List.mem_of_getElem? (i := 58) rfl))) (by decide) (backOf (W := 0) (rm7 l Z a0 hw [] b15 c2 c3 b1 gs_8 ks_8 ap_21 az_21 an_21 al_21 kp_21 kz_21 kn_21 kl_21 Pa2_140 Sz2_140 Nx2_140 La2_140 T159.heap n0 (Nat.le_trans Z0 K159.1) f164 f165 f160 f162 f163 f166 f167 f168 f169 f172 f173 f174 f175 (Ne.symm ne15_b1) (Ne.symm ne15_gs_8) ne21_b15_ap_21 ne21_b15_az_21 ne21_b15_an_21 ne21_b15_al_21 ne8_b1_gs_8 ne21_b1_ap_21 ne21_b1_az_21 ne21_b1_an_21 ne21_b1_al_21 ne21_gs_8_ap_21 ne21_gs_8_az_21 ne21_gs_8_an_21 ne21_gs_8_al_21 u21_4 u21_5 u21_6 u21_7 u21_8 u21_9 ge21_ap_21 ge21_az_21 ge21_an_21 ge21_al_21 hc_2 hc_3 ht1.1) hZ (hw _ (List.mem_of_getElem? (i := 60) rfl)) (hw _ (List.mem_of_getElem? (i := 41) rfl)) (by decide) (by decide)) q178a q178c (g := (mkF m 112 #[.val (.int p0), .val (.int p1), .val (.int p2), .val (.int p3), .val (.int p4), .val (.ref b1), .val (.ref b15), .val (.ref b34), .val (.ref b122), .val (.int (Int32.ofNat c0)), .val (.int (Int32.ofNat c1)), .val (.int (Int32.ofNat c2)), .val (.int (Int32.ofNat c3)), .val (.int (Int32.ofNat c4)), .val (.int (Int32.ofNat c5)), .unset, .unset, .unset, .unset, .unset, .unset, .unset, .unset] [(.int (Int32.ofNat c3)), (.int (Int32.ofNat c2)), (.ref b15)])) rfl (by rw [hml]; rfl) (Steps.refl _) (argsL := [(.int (Int32.ofNat c2)), (.int (Int32.ofNat c3))]) (rest := []) (lenOf pd__II_V rfl) rfl (by show 2 * 0 + _ ≤ _; exact Nat.le_of_eq rfl) (hb hby at_112) (fun _ _ => ⟨rfl, rfl, (by decide : 14 + 0 ≤ _), (by decide : 45 + 0 ≤ _)⟩)
  dsimp only [Pt.U, Pt.locs, Pt.cells, Pt.slots] at X178 l178 y178 z178 st178 hQ178
  subst l178 y178 z178
  obtain ⟨Pa2_178, Sz2_178, Nx2_178, La2_178, rfl, N178q, Kc178, p178_0, p178_1, p178_2, p178_3, u178_0⟩ := hQ178
  have N178 := Fr.app N159 N178q
  refine OG.step (fun tz kz => st178.trans kz) ?_
  have f179 := f160.keep Kc178
  have f180 := f161.keep Kc178 (ninS ne21_b3_ap_21 (ninS ne21_b3_az_21 (ninS ne21_b3_an_21 (ninS ne21_b3_al_21 nin0))))
  have f181 := f162.keep Kc178 (ninS ne21_b1_ap_21 (ninS ne21_b1_az_21 (ninS ne21_b1_an_21 (ninS ne21_b1_al_21 nin0))))
  have f182 := f163.keep Kc178 (ninS ne21_gs_8_ap_21 (ninS ne21_gs_8_az_21 (ninS ne21_gs_8_an_21 (ninS ne21_gs_8_al_21 nin0))))
  have f183 := f164.keep Kc178
  have f184 := f165.keep Kc178 (ninS ne21_b15_ap_21 (ninS ne21_b15_az_21 (ninS ne21_b15_an_21 (ninS ne21_b15_al_21 nin0))))
  have f185 := f166.keep Kc178 (ninS ne21_b15_ap_21 (ninS ne21_b15_az_21 (ninS ne21_b15_an_21 (ninS ne21_b15_al_21 nin0))))
  have f186 := f167.keep Kc178 (ninS ne21_b15_ap_21 (ninS ne21_b15_az_21 (ninS ne21_b15_an_21 (ninS ne21_b15_al_21 nin0))))
  have f187 := f168.keep Kc178 (ninS ne21_b15_ap_21 (ninS ne21_b15_az_21 (ninS ne21_b15_an_21 (ninS ne21_b15_al_21 nin0))))
  have f188 := f169.keep Kc178 (ninS ne21_b15_ap_21 (ninS ne21_b15_az_21 (ninS ne21_b15_an_21 (ninS ne21_b15_al_21 nin0))))
  have f189 := f171.keep Kc178 (ninS (Ne.symm ne122_ap_21) (ninS (Ne.symm ne122_az_21) (ninS (Ne.symm ne122_an_21) (ninS (Ne.symm ne122_al_21) nin0))))
  have f194 := p159_0.keep Kc178 (ninS (Ne.symm ne34_ap_21) (ninS (Ne.symm ne34_az_21) (ninS (Ne.symm ne34_an_21) (ninS (Ne.symm ne34_al_21) nin0))))
  have K178 := K159.trans Kc178 (allS (Or.inr sz21_ap_21) (allS (Or.inr sz21_az_21) (allS (Or.inr sz21_an_21) (allS (Or.inr sz21_al_21) all0))))
  obtain ⟨Lz195, X178, N178⟩ : ∃ Lz, Stand p l e room_1 s m #[(.int p0), (.int p1), (.int p2), (.int p3), (.int p4)] below meth c T178 Lz 14 45 ∧ Fr n0 Lz := ⟨_, X178, N178⟩
  show OG _ _ _ _ _ _ _ (T178.setTop (mkF m 115 #[.val (.int p0), .val (.int p1), .val (.int p2), .val (.int p3), .val (.int p4), .val (.ref b1), .val (.ref b15), .val (.ref b34), .val (.ref b122), .val (.int (Int32.ofNat c0)), .val (.int (Int32.ofNat c1)), .val (.int (Int32.ofNat c2)), .val (.int (Int32.ofNat c3)), .val (.int (Int32.ofNat c4)), .val (.int (Int32.ofNat c5)), .unset, .unset, .unset, .unset, .unset, .unset, .unset, .unset] []))
  have s196 : ∀ tz, Steps p.tables e below (T178.setTop (mkF m 121 #[.val (.int p0), .val (.int p1), .val (.int p2), .val (.int p3), .val (.int p4), .val (.ref b1), .val (.ref b15), .val (.ref b34), .val (.ref b122), .val (.int (Int32.ofNat c0)), .val (.int (Int32.ofNat c1)), .val (.int (Int32.ofNat c2)), .val (.int (Int32.ofNat c3)), .val (.int (Int32.ofNat c4)), .val (.int (Int32.ofNat c5)), .unset, .unset, .unset, .unset, .unset, .unset, .unset, .unset] [(.int (Int32.ofNat c3)), (.int (Int32.ofNat c2)), (.ref b34)])) tz → Steps p.tables e below (T178.setTop (mkF m 115 #[.val (.int p0), .val (.int p1), .val (.int p2), .val (.int p3), .val (.int p4), .val (.ref b1), .val (.ref b15), .val (.ref b34), .val (.ref b122), .val (.int (Int32.ofNat c0)), .val (.int (Int32.ofNat c1)), .val (.int (Int32.ofNat c2)), .val (.int (Int32.ofNat c3)), .val (.int (Int32.ofNat c4)), .val (.int (Int32.ofNat c5)), .unset, .unset, .unset, .unset, .unset, .unset, .unset, .unset] [])) tz := by
    intro tz kz
    refine XS.aload X178.here hx rfl (hb hby at_115) rfl rfl ?_
    refine XS.iload X178.here hx rfl (hb hby at_117) rfl ?_
    refine XS.iload X178.here hx rfl (hb hby at_119) rfl ?_
    exact kz
  refine OG.step s196 ?_
  obtain ⟨_, _, ⟨T197, L197, k197, n197⟩, -, X197, ⟨Lc197, hQ197, l197, y197, z197⟩, st197⟩ := Jvm.LawKit.callS X178 hx (y := (⟨"com/example/tidegraph/tidegraph/amd64/LiveRangesFindPinLaw", "relabel", "([III)V"⟩ : MethodName)) hown (mvT hZ (hw _ (List.mem_of_getElem? (i := 66) rfl))) (mvT hZ (hw _ (List.mem_of_getElem? (i := 67) rfl))) (mvT hZ (hw _ (List.mem_of_getElem? (i := 68) rfl))) (mvT hZ (hw _ (List.mem_of_getElem? (i := 69) rfl))) (by decide) (backOf (W := 0) (rm9 l Z a0 hw [] b34 c2 c3 k34 (own_rl [0, 1, 2, 3] c0 c1) T178.heap n0 (Nat.le_trans Z0 K178.1) f194 ge34 ht1.2.1 hc_2 hc_3) hZ (hw _ (List.mem_of_getElem? (i := 69) rfl)) (hw _ (List.mem_of_getElem? (i := 68) rfl)) (by decide) (by decide)) (g := (mkF m 121 #[.val (.int p0), .val (.int p1), .val (.int p2), .val (.int p3), .val (.int p4), .val (.ref b1), .val (.ref b15), .val (.ref b34), .val (.ref b122), .val (.int (Int32.ofNat c0)), .val (.int (Int32.ofNat c1)), .val (.int (Int32.ofNat c2)), .val (.int (Int32.ofNat c3)), .val (.int (Int32.ofNat c4)), .val (.int (Int32.ofNat c5)), .unset, .unset, .unset, .unset, .unset, .unset, .unset, .unset] [(.int (Int32.ofNat c3)), (.int (Int32.ofNat c2)), (.ref b34)])) rfl (by rw [hml]; rfl) (argsL := [(.ref b34), (.int (Int32.ofNat c2)), (.int (Int32.ofNat c3))]) (rest := []) (lenOf pd___III_V rfl) rfl (by show 2 * 0 + _ ≤ _; exact Nat.le_of_eq rfl) (hb hby at_121) (fun _ _ => ⟨rfl, rfl, (by decide : 14 + 0 ≤ _), (by decide : 45 + 0 ≤ _)⟩)
  dsimp only [Pt.U, Pt.locs, Pt.cells, Pt.slots] at X197 l197 y197 z197 st197 hQ197
  subst l197 y197 z197
  obtain ⟨rfl, N197q, Kc197, p197_0⟩ := hQ197
  have N197 := Fr.app N178 N197q
  refine OG.step st197 ?_
  have f198 := f179.keep Kc197
  have f199 := f180.keep Kc197 (ninS ne34_b3 nin0)
  have f200 := f181.keep Kc197 (ninS ne34_b1 nin0)
  have f201 := f182.keep Kc197 (ninS ne34_gs_8 nin0)
  have f202 := f183.keep Kc197
  have f203 := f184.keep Kc197 (ninS ne34_b15 nin0)
  have f204 := f185.keep Kc197 (ninS ne34_b15 nin0)
  have f205 := f186.keep Kc197 (ninS ne34_b15 nin0)
  have f206 := f187.keep Kc197 (ninS ne34_b15 nin0)
  have f207 := f188.keep Kc197 (ninS ne34_b15 nin0)
  have f208 := f189.keep Kc197 (ninS (Ne.symm ne122_b34) nin0)
  have f210 := p178_0.keep Kc197 (ninS ne34_ap_21 nin0)
  have f211 := p178_1.keep Kc197 (ninS ne34_az_21 nin0)
  have f212 := p178_2.keep Kc197 (ninS ne34_an_21 nin0)
  have f213 := p178_3.keep Kc197 (ninS ne34_al_21 nin0)
  have K197 := K178.trans Kc197 (allS (Or.inr sz34) all0)
  obtain ⟨Lz214, X197, N197⟩ : ∃ Lz, Stand p l e room_1 s m #[(.int p0), (.int p1), (.int p2), (.int p3), (.int p4)] below meth c T197 Lz 14 45 ∧ Fr n0 Lz := ⟨_, X197, N197⟩
  have hR2 := ht1.2.2 _ _ _ _ u178_0
  show OG _ _ _ _ _ _ _ (T197.setTop (mkF m 124 #[.val (.int p0), .val (.int p1), .val (.int p2), .val (.int p3), .val (.int p4), .val (.ref b1), .val (.ref b15), .val (.ref b34), .val (.ref b122), .val (.int (Int32.ofNat c0)), .val (.int (Int32.ofNat c1)), .val (.int (Int32.ofNat c2)), .val (.int (Int32.ofNat c3)), .val (.int (Int32.ofNat c4)), .val (.int (Int32.ofNat c5)), .unset, .unset, .unset, .unset, .unset, .unset, .unset, .unset] []))
  have s215 : ∀ tz, Steps p.tables e below (T197.setTop (mkF m 130 #[.val (.int p0), .val (.int p1), .val (.int p2), .val (.int p3), .val (.int p4), .val (.ref b1), .val (.ref b15), .val (.ref b34), .val (.ref b122), .val (.int (Int32.ofNat c0)), .val (.int (Int32.ofNat c1)), .val (.int (Int32.ofNat c2)), .val (.int (Int32.ofNat c3)), .val (.int (Int32.ofNat c4)), .val (.int (Int32.ofNat c5)), .unset, .unset, .unset, .unset, .unset, .unset, .unset, .unset] [(.int (Int32.ofNat c5)), (.int (Int32.ofNat c4)), (.ref b15)])) tz → Steps p.tables e below (T197.setTop (mkF m 124 #[.val (.int p0), .val (.int p1), .val (.int p2), .val (.int p3), .val (.int p4), .val (.ref b1), .val (.ref b15), .val (.ref b34), .val (.ref b122), .val (.int (Int32.ofNat c0)), .val (.int (Int32.ofNat c1)), .val (.int (Int32.ofNat c2)), .val (.int (Int32.ofNat c3)), .val (.int (Int32.ofNat c4)), .val (.int (Int32.ofNat c5)), .unset, .unset, .unset, .unset, .unset, .unset, .unset, .unset] [])) tz := by
    intro tz kz
    refine XS.aload X197.here hx rfl (hb hby at_124) rfl rfl ?_
    refine XS.iload X197.here hx rfl (hb hby at_126) rfl ?_
    refine XS.iload X197.here hx rfl (hb hby at_128) rfl ?_
    exact kz
  refine OG.step s215 ?_
  have ht2 := own_s2 hc_4 hc_5 hR2
  obtain ⟨cq216, kq216, q216a, q216b, q216c⟩ := isOf hZ rfl f202
  obtain ⟨_, _, ⟨T216, L216, k216, n216⟩, -, X216, ⟨Lc216, hQ216, l216, y216, z216⟩, st216⟩ := X197.virtualBack hx (y := (⟨"com/example/tidegraph/tidegraph/amd64/LiveRanges", "join", "(II)V"⟩ : MethodName)) (z := (⟨"com/example/tidegraph/tidegraph/amd64/LiveRanges", "join", "(II)V"⟩ : MethodName)) hown (mvT hZ (hw _ (List.mem_of_getElem? (i := 56) rfl))) (mvT hZ (hw _ (List.mem_of_getElem? (i := 57) rfl))) (notFace_of_selects (args := #[]) (mvT hZ (hw _ (List.mem_of_getElem? (i := 59) rfl)))) (mvT hZ (hw _ (List.mem_of_getElem? (i := 59) rfl))) (mvT hZ (hw _ (List.mem_of_getElem? (i := 58) rfl))) (by decide) (backOf (W := 0) (rm7 l Z a0 hw [] b15 c4 c5 b1 gs_8 ks_8 ap_21 az_21 an_21 al_21 kp_21 kz_21 kn_21 kl_21 Pa2_178 Sz2_178 Nx2_178 La2_178 T197.heap n0 (Nat.le_trans Z0 K197.1) f202 f203 f198 f200 f201 f204 f205 f206 f207 f210 f211 f212 f213 (Ne.symm ne15_b1) (Ne.symm ne15_gs_8) ne21_b15_ap_21 ne21_b15_az_21 ne21_b15_an_21 ne21_b15_al_21 ne8_b1_gs_8 ne21_b1_ap_21 ne21_b1_az_21 ne21_b1_an_21 ne21_b1_al_21 ne21_gs_8_ap_21 ne21_gs_8_az_21 ne21_gs_8_an_21 ne21_gs_8_al_21 u21_4 u21_5 u21_6 u21_7 u21_8 u21_9 ge21_ap_21 ge21_az_21 ge21_an_21 ge21_al_21 hc_4 hc_5 ht2.1) hZ (hw _ (List.mem_of_getElem? (i := 60) rfl)) (hw _ (List.mem_of_getElem? (i := 41) rfl)) (by decide) (by decide)) q216a q216c (g := (mkF m 130 #[.val (.int p0), .val (.int p1), .val (.int p2), .val (.int p3), .val (.int p4), .val (.ref b1), .val (.ref b15), .val (.ref b34), .val (.ref b122), .val (.int (Int32.ofNat c0)), .val (.int (Int32.ofNat c1)), .val (.int (Int32.ofNat c2)), .val (.int (Int32.ofNat c3)), .val (.int (Int32.ofNat c4)), .val (.int (Int32.ofNat c5)), .unset, .unset, .unset, .unset, .unset, .unset, .unset, .unset] [(.int (Int32.ofNat c5)), (.int (Int32.ofNat c4)), (.ref b15)])) rfl (by rw [hml]; rfl) (Steps.refl _) (argsL := [(.int (Int32.ofNat c4)), (.int (Int32.ofNat c5))]) (rest := []) (lenOf pd__II_V rfl) rfl (by show 2 * 0 + _ ≤ _; exact Nat.le_of_eq rfl) (hb hby at_130) (fun _ _ => ⟨rfl, rfl, (by decide : 14 + 0 ≤ _), (by decide : 45 + 0 ≤ _)⟩)
  dsimp only [Pt.U, Pt.locs, Pt.cells, Pt.slots] at X216 l216 y216 z216 st216 hQ216
  subst l216 y216 z216
  obtain ⟨Pa2_216, Sz2_216, Nx2_216, La2_216, rfl, N216q, Kc216, p216_0, p216_1, p216_2, p216_3, u216_0⟩ := hQ216
  have N216 := Fr.app N197 N216q
  refine OG.step (fun tz kz => st216.trans kz) ?_
  have f217 := f198.keep Kc216
  have f218 := f199.keep Kc216 (ninS ne21_b3_ap_21 (ninS ne21_b3_az_21 (ninS ne21_b3_an_21 (ninS ne21_b3_al_21 nin0))))
  have f219 := f200.keep Kc216 (ninS ne21_b1_ap_21 (ninS ne21_b1_az_21 (ninS ne21_b1_an_21 (ninS ne21_b1_al_21 nin0))))
  have f220 := f201.keep Kc216 (ninS ne21_gs_8_ap_21 (ninS ne21_gs_8_az_21 (ninS ne21_gs_8_an_21 (ninS ne21_gs_8_al_21 nin0))))
  have f221 := f202.keep Kc216
  have f222 := f203.keep Kc216 (ninS ne21_b15_ap_21 (ninS ne21_b15_az_21 (ninS ne21_b15_an_21 (ninS ne21_b15_al_21 nin0))))
  have f223 := f204.keep Kc216 (ninS ne21_b15_ap_21 (ninS ne21_b15_az_21 (ninS ne21_b15_an_21 (ninS ne21_b15_al_21 nin0))))
  have f224 := f205.keep Kc216 (ninS ne21_b15_ap_21 (ninS ne21_b15_az_21 (ninS ne21_b15_an_21 (ninS ne21_b15_al_21 nin0))))
  have f225 := f206.keep Kc216 (ninS ne21_b15_ap_21 (ninS ne21_b15_az_21 (ninS ne21_b15_an_21 (ninS ne21_b15_al_21 nin0))))
  have f226 := f207.keep Kc216 (ninS ne21_b15_ap_21 (ninS ne21_b15_az_21 (ninS ne21_b15_an_21 (ninS ne21_b15_al_21 nin0))))
  have f227 := f208.keep Kc216 (ninS (Ne.symm ne122_ap_21) (ninS (Ne.symm ne122_az_21) (ninS (Ne.symm ne122_an_21) (ninS (Ne.symm ne122_al_21) nin0))))
  have f232 := p197_0.keep Kc216 (ninS (Ne.symm ne34_ap_21) (ninS (Ne.symm ne34_az_21) (ninS (Ne.symm ne34_an_21) (ninS (Ne.symm ne34_al_21) nin0))))
  have K216 := K197.trans Kc216 (allS (Or.inr sz21_ap_21) (allS (Or.inr sz21_az_21) (allS (Or.inr sz21_an_21) (allS (Or.inr sz21_al_21) all0))))
  obtain ⟨Lz233, X216, N216⟩ : ∃ Lz, Stand p l e room_1 s m #[(.int p0), (.int p1), (.int p2), (.int p3), (.int p4)] below meth c T216 Lz 14 45 ∧ Fr n0 Lz := ⟨_, X216, N216⟩
  show OG _ _ _ _ _ _ _ (T216.setTop (mkF m 133 #[.val (.int p0), .val (.int p1), .val (.int p2), .val (.int p3), .val (.int p4), .val (.ref b1), .val (.ref b15), .val (.ref b34), .val (.ref b122), .val (.int (Int32.ofNat c0)), .val (.int (Int32.ofNat c1)), .val (.int (Int32.ofNat c2)), .val (.int (Int32.ofNat c3)), .val (.int (Int32.ofNat c4)), .val (.int (Int32.ofNat c5)), .unset, .unset, .unset, .unset, .unset, .unset, .unset, .unset] []))
  have s234 : ∀ tz, Steps p.tables e below (T216.setTop (mkF m 139 #[.val (.int p0), .val (.int p1), .val (.int p2), .val (.int p3), .val (.int p4), .val (.ref b1), .val (.ref b15), .val (.ref b34), .val (.ref b122), .val (.int (Int32.ofNat c0)), .val (.int (Int32.ofNat c1)), .val (.int (Int32.ofNat c2)), .val (.int (Int32.ofNat c3)), .val (.int (Int32.ofNat c4)), .val (.int (Int32.ofNat c5)), .unset, .unset, .unset, .unset, .unset, .unset, .unset, .unset] [(.int (Int32.ofNat c5)), (.int (Int32.ofNat c4)), (.ref b34)])) tz → Steps p.tables e below (T216.setTop (mkF m 133 #[.val (.int p0), .val (.int p1), .val (.int p2), .val (.int p3), .val (.int p4), .val (.ref b1), .val (.ref b15), .val (.ref b34), .val (.ref b122), .val (.int (Int32.ofNat c0)), .val (.int (Int32.ofNat c1)), .val (.int (Int32.ofNat c2)), .val (.int (Int32.ofNat c3)), .val (.int (Int32.ofNat c4)), .val (.int (Int32.ofNat c5)), .unset, .unset, .unset, .unset, .unset, .unset, .unset, .unset] [])) tz := by
    intro tz kz
    refine XS.aload X216.here hx rfl (hb hby at_133) rfl rfl ?_
    refine XS.iload X216.here hx rfl (hb hby at_135) rfl ?_
    refine XS.iload X216.here hx rfl (hb hby at_137) rfl ?_
    exact kz
  refine OG.step s234 ?_
  obtain ⟨_, _, ⟨T235, L235, k235, n235⟩, -, X235, ⟨Lc235, hQ235, l235, y235, z235⟩, st235⟩ := Jvm.LawKit.callS X216 hx (y := (⟨"com/example/tidegraph/tidegraph/amd64/LiveRangesFindPinLaw", "relabel", "([III)V"⟩ : MethodName)) hown (mvT hZ (hw _ (List.mem_of_getElem? (i := 66) rfl))) (mvT hZ (hw _ (List.mem_of_getElem? (i := 67) rfl))) (mvT hZ (hw _ (List.mem_of_getElem? (i := 68) rfl))) (mvT hZ (hw _ (List.mem_of_getElem? (i := 69) rfl))) (by decide) (backOf (W := 0) (rm9 l Z a0 hw [] b34 c4 c5 k34 (own_rl (own_rl [0, 1, 2, 3] c0 c1) c2 c3) T216.heap n0 (Nat.le_trans Z0 K216.1) f232 ge34 ht2.2.1 hc_4 hc_5) hZ (hw _ (List.mem_of_getElem? (i := 69) rfl)) (hw _ (List.mem_of_getElem? (i := 68) rfl)) (by decide) (by decide)) (g := (mkF m 139 #[.val (.int p0), .val (.int p1), .val (.int p2), .val (.int p3), .val (.int p4), .val (.ref b1), .val (.ref b15), .val (.ref b34), .val (.ref b122), .val (.int (Int32.ofNat c0)), .val (.int (Int32.ofNat c1)), .val (.int (Int32.ofNat c2)), .val (.int (Int32.ofNat c3)), .val (.int (Int32.ofNat c4)), .val (.int (Int32.ofNat c5)), .unset, .unset, .unset, .unset, .unset, .unset, .unset, .unset] [(.int (Int32.ofNat c5)), (.int (Int32.ofNat c4)), (.ref b34)])) rfl (by rw [hml]; rfl) (argsL := [(.ref b34), (.int (Int32.ofNat c4)), (.int (Int32.ofNat c5))]) (rest := []) (lenOf pd___III_V rfl) rfl (by show 2 * 0 + _ ≤ _; exact Nat.le_of_eq rfl) (hb hby at_139) (fun _ _ => ⟨rfl, rfl, (by decide : 14 + 0 ≤ _), (by decide : 45 + 0 ≤ _)⟩)
  dsimp only [Pt.U, Pt.locs, Pt.cells, Pt.slots] at X235 l235 y235 z235 st235 hQ235
  subst l235 y235 z235
  obtain ⟨rfl, N235q, Kc235, p235_0⟩ := hQ235
  have N235 := Fr.app N216 N235q
  refine OG.step st235 ?_
  have f236 := f217.keep Kc235
  have f237 := f218.keep Kc235 (ninS ne34_b3 nin0)
  have f238 := f219.keep Kc235 (ninS ne34_b1 nin0)
  have f239 := f220.keep Kc235 (ninS ne34_gs_8 nin0)
  have f240 := f221.keep Kc235
  have f241 := f222.keep Kc235 (ninS ne34_b15 nin0)
  have f242 := f223.keep Kc235 (ninS ne34_b15 nin0)
  have f243 := f224.keep Kc235 (ninS ne34_b15 nin0)
  have f244 := f225.keep Kc235 (ninS ne34_b15 nin0)
  have f245 := f226.keep Kc235 (ninS ne34_b15 nin0)
  have f246 := f227.keep Kc235 (ninS (Ne.symm ne122_b34) nin0)
  have f248 := p216_0.keep Kc235 (ninS ne34_ap_21 nin0)
  have f249 := p216_1.keep Kc235 (ninS ne34_az_21 nin0)
  have f250 := p216_2.keep Kc235 (ninS ne34_an_21 nin0)
  have f251 := p216_3.keep Kc235 (ninS ne34_al_21 nin0)
  have K235 := K216.trans Kc235 (allS (Or.inr sz34) all0)
  obtain ⟨Lz252, X235, N235⟩ : ∃ Lz, Stand p l e room_1 s m #[(.int p0), (.int p1), (.int p2), (.int p3), (.int p4)] below meth c T235 Lz 14 45 ∧ Fr n0 Lz := ⟨_, X235, N235⟩
  have hR3 := ht2.2.2 _ _ _ _ u216_0
  show OG _ _ _ _ _ _ _ (T235.setTop (mkF m 142 #[.val (.int p0), .val (.int p1), .val (.int p2), .val (.int p3), .val (.int p4), .val (.ref b1), .val (.ref b15), .val (.ref b34), .val (.ref b122), .val (.int (Int32.ofNat c0)), .val (.int (Int32.ofNat c1)), .val (.int (Int32.ofNat c2)), .val (.int (Int32.ofNat c3)), .val (.int (Int32.ofNat c4)), .val (.int (Int32.ofNat c5)), .unset, .unset, .unset, .unset, .unset, .unset, .unset, .unset] []))
  have s253 : ∀ tz, Steps p.tables e below (T235.setTop (mkF m 175 #[.val (.int p0), .val (.int p1), .val (.int p2), .val (.int p3), .val (.int p4), .val (.ref b1), .val (.ref b15), .val (.ref b34), .val (.ref b122), .val (.int (Int32.ofNat c0)), .val (.int (Int32.ofNat c1)), .val (.int (Int32.ofNat c2)), .val (.int (Int32.ofNat c3)), .val (.int (Int32.ofNat c4)), .val (.int (Int32.ofNat c5)), .val (.int (p3 &&& (3 : Int32))), .val (.int (p3 &&& (3 : Int32))), .val (.int (((p3 &&& (3 : Int32)) + (1 : Int32)) &&& (3 : Int32))), .val (.int (((p3 &&& (3 : Int32)) + (2 : Int32)) &&& (3 : Int32))), .val (.int (((p3 &&& (3 : Int32)) + (3 : Int32)) &&& (3 : Int32))), .unset, .unset, .unset] [])) tz → Steps p.tables e below (T235.setTop (mkF m 142 #[.val (.int p0), .val (.int p1), .val (.int p2), .val (.int p3), .val (.int p4), .val (.ref b1), .val (.ref b15), .val (.ref b34), .val (.ref b122), .val (.int (Int32.ofNat c0)), .val (.int (Int32.ofNat c1)), .val (.int (Int32.ofNat c2)), .val (.int (Int32.ofNat c3)), .val (.int (Int32.ofNat c4)), .val (.int (Int32.ofNat c5)), .unset, .unset, .unset, .unset, .unset, .unset, .unset, .unset] [])) tz := by
    intro tz kz
    refine XS.iloadN X235.here hx rfl (hb hby at_142) rfl ?_
    refine XS.iconst X235.here hx rfl (hb hby at_143) ?_
    refine XS.iand X235.here hx rfl (hb hby at_144) rfl ?_
    refine XS.istore X235.here hx rfl (hb hby at_145) rfl (l' := #[.val (.int p0), .val (.int p1), .val (.int p2), .val (.int p3), .val (.int p4), .val (.ref b1), .val (.ref b15), .val (.ref b34), .val (.ref b122), .val (.int (Int32.ofNat c0)), .val (.int (Int32.ofNat c1)), .val (.int (Int32.ofNat c2)), .val (.int (Int32.ofNat c3)), .val (.int (Int32.ofNat c4)), .val (.int (Int32.ofNat c5)), .val (.int (p3 &&& (3 : Int32))), .unset, .unset, .unset, .unset, .unset, .unset, .unset]) rfl ?_
    refine XS.iload X235.here hx rfl (hb hby at_147) rfl ?_
    show Steps p.tables e below (T235.setTop (mkF m 149 #[.val (.int p0), .val (.int p1), .val (.int p2), .val (.int p3), .val (.int p4), .val (.ref b1), .val (.ref b15), .val (.ref b34), .val (.ref b122), .val (.int (Int32.ofNat c0)), .val (.int (Int32.ofNat c1)), .val (.int (Int32.ofNat c2)), .val (.int (Int32.ofNat c3)), .val (.int (Int32.ofNat c4)), .val (.int (Int32.ofNat c5)), .val (.int (p3 &&& (3 : Int32))), .unset, .unset, .unset, .unset, .unset, .unset, .unset] [(.int (p3 &&& (3 : Int32)))])) _
    refine XS.istore X235.here hx rfl (hb hby at_149) rfl (l' := #[.val (.int p0), .val (.int p1), .val (.int p2), .val (.int p3), .val (.int p4), .val (.ref b1), .val (.ref b15), .val (.ref b34), .val (.ref b122), .val (.int (Int32.ofNat c0)), .val (.int (Int32.ofNat c1)), .val (.int (Int32.ofNat c2)), .val (.int (Int32.ofNat c3)), .val (.int (Int32.ofNat c4)), .val (.int (Int32.ofNat c5)), .val (.int (p3 &&& (3 : Int32))), .val (.int (p3 &&& (3 : Int32))), .unset, .unset, .unset, .unset, .unset, .unset]) rfl ?_
    refine XS.iload X235.here hx rfl (hb hby at_151) rfl ?_
    refine XS.iconst X235.here hx rfl (hb hby at_153) ?_
    refine XS.iadd X235.here hx rfl (hb hby at_154) rfl ?_
    refine XS.iconst X235.here hx rfl (hb hby at_155) ?_
    show Steps p.tables e below (T235.setTop (mkF m 156 #[.val (.int p0), .val (.int p1), .val (.int p2), .val (.int p3), .val (.int p4), .val (.ref b1), .val (.ref b15), .val (.ref b34), .val (.ref b122), .val (.int (Int32.ofNat c0)), .val (.int (Int32.ofNat c1)), .val (.int (Int32.ofNat c2)), .val (.int (Int32.ofNat c3)), .val (.int (Int32.ofNat c4)), .val (.int (Int32.ofNat c5)), .val (.int (p3 &&& (3 : Int32))), .val (.int (p3 &&& (3 : Int32))), .unset, .unset, .unset, .unset, .unset, .unset] [(.int (3 : Int32)), (.int ((p3 &&& (3 : Int32)) + (1 : Int32)))])) _
    refine XS.iand X235.here hx rfl (hb hby at_156) rfl ?_
    refine XS.istore X235.here hx rfl (hb hby at_157) rfl (l' := #[.val (.int p0), .val (.int p1), .val (.int p2), .val (.int p3), .val (.int p4), .val (.ref b1), .val (.ref b15), .val (.ref b34), .val (.ref b122), .val (.int (Int32.ofNat c0)), .val (.int (Int32.ofNat c1)), .val (.int (Int32.ofNat c2)), .val (.int (Int32.ofNat c3)), .val (.int (Int32.ofNat c4)), .val (.int (Int32.ofNat c5)), .val (.int (p3 &&& (3 : Int32))), .val (.int (p3 &&& (3 : Int32))), .val (.int (((p3 &&& (3 : Int32)) + (1 : Int32)) &&& (3 : Int32))), .unset, .unset, .unset, .unset, .unset]) rfl ?_
    refine XS.iload X235.here hx rfl (hb hby at_159) rfl ?_
    refine XS.iconst X235.here hx rfl (hb hby at_161) ?_
    refine XS.iadd X235.here hx rfl (hb hby at_162) rfl ?_
    show Steps p.tables e below (T235.setTop (mkF m 163 #[.val (.int p0), .val (.int p1), .val (.int p2), .val (.int p3), .val (.int p4), .val (.ref b1), .val (.ref b15), .val (.ref b34), .val (.ref b122), .val (.int (Int32.ofNat c0)), .val (.int (Int32.ofNat c1)), .val (.int (Int32.ofNat c2)), .val (.int (Int32.ofNat c3)), .val (.int (Int32.ofNat c4)), .val (.int (Int32.ofNat c5)), .val (.int (p3 &&& (3 : Int32))), .val (.int (p3 &&& (3 : Int32))), .val (.int (((p3 &&& (3 : Int32)) + (1 : Int32)) &&& (3 : Int32))), .unset, .unset, .unset, .unset, .unset] [(.int ((p3 &&& (3 : Int32)) + (2 : Int32)))])) _
    refine XS.iconst X235.here hx rfl (hb hby at_163) ?_
    refine XS.iand X235.here hx rfl (hb hby at_164) rfl ?_
    refine XS.istore X235.here hx rfl (hb hby at_165) rfl (l' := #[.val (.int p0), .val (.int p1), .val (.int p2), .val (.int p3), .val (.int p4), .val (.ref b1), .val (.ref b15), .val (.ref b34), .val (.ref b122), .val (.int (Int32.ofNat c0)), .val (.int (Int32.ofNat c1)), .val (.int (Int32.ofNat c2)), .val (.int (Int32.ofNat c3)), .val (.int (Int32.ofNat c4)), .val (.int (Int32.ofNat c5)), .val (.int (p3 &&& (3 : Int32))), .val (.int (p3 &&& (3 : Int32))), .val (.int (((p3 &&& (3 : Int32)) + (1 : Int32)) &&& (3 : Int32))), .val (.int (((p3 &&& (3 : Int32)) + (2 : Int32)) &&& (3 : Int32))), .unset, .unset, .unset, .unset]) rfl ?_
    refine XS.iload X235.here hx rfl (hb hby at_167) rfl ?_
    refine XS.iconst X235.here hx rfl (hb hby at_169) ?_
    show Steps p.tables e below (T235.setTop (mkF m 170 #[.val (.int p0), .val (.int p1), .val (.int p2), .val (.int p3), .val (.int p4), .val (.ref b1), .val (.ref b15), .val (.ref b34), .val (.ref b122), .val (.int (Int32.ofNat c0)), .val (.int (Int32.ofNat c1)), .val (.int (Int32.ofNat c2)), .val (.int (Int32.ofNat c3)), .val (.int (Int32.ofNat c4)), .val (.int (Int32.ofNat c5)), .val (.int (p3 &&& (3 : Int32))), .val (.int (p3 &&& (3 : Int32))), .val (.int (((p3 &&& (3 : Int32)) + (1 : Int32)) &&& (3 : Int32))), .val (.int (((p3 &&& (3 : Int32)) + (2 : Int32)) &&& (3 : Int32))), .unset, .unset, .unset, .unset] [(.int (3 : Int32)), (.int (p3 &&& (3 : Int32)))])) _
    refine XS.iadd X235.here hx rfl (hb hby at_170) rfl ?_
    refine XS.iconst X235.here hx rfl (hb hby at_171) ?_
    refine XS.iand X235.here hx rfl (hb hby at_172) rfl ?_
    refine XS.istore X235.here hx rfl (hb hby at_173) rfl (l' := #[.val (.int p0), .val (.int p1), .val (.int p2), .val (.int p3), .val (.int p4), .val (.ref b1), .val (.ref b15), .val (.ref b34), .val (.ref b122), .val (.int (Int32.ofNat c0)), .val (.int (Int32.ofNat c1)), .val (.int (Int32.ofNat c2)), .val (.int (Int32.ofNat c3)), .val (.int (Int32.ofNat c4)), .val (.int (Int32.ofNat c5)), .val (.int (p3 &&& (3 : Int32))), .val (.int (p3 &&& (3 : Int32))), .val (.int (((p3 &&& (3 : Int32)) + (1 : Int32)) &&& (3 : Int32))), .val (.int (((p3 &&& (3 : Int32)) + (2 : Int32)) &&& (3 : Int32))), .val (.int (((p3 &&& (3 : Int32)) + (3 : Int32)) &&& (3 : Int32))), .unset, .unset, .unset]) rfl ?_
    exact kz
  refine OG.step s253 ?_
  obtain ⟨s0, hs0, es0⟩ := own_small p3
  rw [es0, (own_q hs0).1, (own_q hs0).2.1, (own_q hs0).2.2]
  obtain ⟨x0, hx0, ex0⟩ := own_small p4
  have hch := own_fin _ _ _ _ _ hR3 hs0 hx0
  have hs1 : (s0 + 1) % 4 < 4 := by omega
  have hs2 : (s0 + 2) % 4 < 4 := by omega
  have hs3 : (s0 + 3) % 4 < 4 := by omega
  show OG _ _ _ _ _ _ _ (T235.setTop (mkF m 175 #[.val (.int p0), .val (.int p1), .val (.int p2), .val (.int p3), .val (.int p4), .val (.ref b1), .val (.ref b15), .val (.ref b34), .val (.ref b122), .val (.int (Int32.ofNat c0)), .val (.int (Int32.ofNat c1)), .val (.int (Int32.ofNat c2)), .val (.int (Int32.ofNat c3)), .val (.int (Int32.ofNat c4)), .val (.int (Int32.ofNat c5)), .val (.int (Int32.ofNat s0)), .val (.int (Int32.ofNat s0)), .val (.int (Int32.ofNat ((s0 + 1) % 4))), .val (.int (Int32.ofNat ((s0 + 2) % 4))), .val (.int (Int32.ofNat ((s0 + 3) % 4))), .unset, .unset, .unset] []))
  have s254 : ∀ tz, Steps p.tables e below (T235.setTop (mkF m 183 #[.val (.int p0), .val (.int p1), .val (.int p2), .val (.int p3), .val (.int p4), .val (.ref b1), .val (.ref b15), .val (.ref b34), .val (.ref b122), .val (.int (Int32.ofNat c0)), .val (.int (Int32.ofNat c1)), .val (.int (Int32.ofNat c2)), .val (.int (Int32.ofNat c3)), .val (.int (Int32.ofNat c4)), .val (.int (Int32.ofNat c5)), .val (.int (Int32.ofNat s0)), .val (.int (Int32.ofNat s0)), .val (.int (Int32.ofNat ((s0 + 1) % 4))), .val (.int (Int32.ofNat ((s0 + 2) % 4))), .val (.int (Int32.ofNat ((s0 + 3) % 4))), .unset, .unset, .unset] [(.int (Int32.ofNat s0)), (.ref b15), (.int (Int32.ofNat s0)), (.ref b122)])) tz → Steps p.tables e below (T235.setTop (mkF m 175 #[.val (.int p0), .val (.int p1), .val (.int p2), .val (.int p3), .val (.int p4), .val (.ref b1), .val (.ref b15), .val (.ref b34), .val (.ref b122), .val (.int (Int32.ofNat c0)), .val (.int (Int32.ofNat c1)), .val (.int (Int32.ofNat c2)), .val (.int (Int32.ofNat c3)), .val (.int (Int32.ofNat c4)), .val (.int (Int32.ofNat c5)), .val (.int (Int32.ofNat s0)), .val (.int (Int32.ofNat s0)), .val (.int (Int32.ofNat ((s0 + 1) % 4))), .val (.int (Int32.ofNat ((s0 + 2) % 4))), .val (.int (Int32.ofNat ((s0 + 3) % 4))), .unset, .unset, .unset] [])) tz := by
    intro tz kz
    refine XS.aload X235.here hx rfl (hb hby at_175) rfl rfl ?_
    refine XS.iload X235.here hx rfl (hb hby at_177) rfl ?_
    refine XS.aload X235.here hx rfl (hb hby at_179) rfl rfl ?_
    refine XS.iload X235.here hx rfl (hb hby at_181) rfl ?_
    exact kz
  refine OG.step s254 ?_
  obtain ⟨cq255, kq255, q255a, q255b, q255c⟩ := isOf hZ rfl f240
  obtain ⟨_, _, ⟨T255, L255, k255, n255⟩, -, X255, ⟨Lc255, hQ255, l255, y255, z255⟩, st255⟩ := X235.virtualBack hx (y := (⟨"com/example/tidegraph/tidegraph/amd64/LiveRanges", "find", "(I)I"⟩ : MethodName)) (z := (⟨"com/example/tidegraph/tidegraph/amd64/LiveRanges", "find", "(I)I"⟩ : MethodName)) hown (mvT hZ (hw _ (List.mem_of_getElem? (i := 80) rfl))) (mvT hZ (hw _ (List.mem_of_getElem? (i := 62) rfl))) (notFace_of_selects (args := #[]) (mvT hZ (hw _ (List.mem_of_getElem? (i := 64) rfl)))) (mvT hZ (hw _ (List.mem_of_getElem? (i := 64) rfl))) (mvT hZ (hw _ (List.mem_of_getElem? (i := 63) rfl))) (by decide) (backOf (W := 2) (rm8 l Z a0 hw [] b15 s0 ap_21 kp_21 Pa2_216 T235.heap n0 (Nat.le_trans Z0 K235.1) f242 f248 ne21_b15_ap_21 ge21_ap_21 hs0 hch.1) hZ (hw _ (List.mem_of_getElem? (i := 65) rfl)) (hw _ (List.mem_of_getElem? (i := 41) rfl)) (by decide) (by decide)) q255a q255c (g := (mkF m 183 #[.val (.int p0), .val (.int p1), .val (.int p2), .val (.int p3), .val (.int p4), .val (.ref b1), .val (.ref b15), .val (.ref b34), .val (.ref b122), .val (.int (Int32.ofNat c0)), .val (.int (Int32.ofNat c1)), .val (.int (Int32.ofNat c2)), .val (.int (Int32.ofNat c3)), .val (.int (Int32.ofNat c4)), .val (.int (Int32.ofNat c5)), .val (.int (Int32.ofNat s0)), .val (.int (Int32.ofNat s0)), .val (.int (Int32.ofNat ((s0 + 1) % 4))), .val (.int (Int32.ofNat ((s0 + 2) % 4))), .val (.int (Int32.ofNat ((s0 + 3) % 4))), .unset, .unset, .unset] [(.int (Int32.ofNat s0)), (.ref b15), (.int (Int32.ofNat s0)), (.ref b122)])) rfl (by rw [hml]; rfl) (Steps.refl _) (argsL := [(.int (Int32.ofNat s0))]) (rest := [(.int (Int32.ofNat s0)), (.ref b122)]) (lenOf pd__I_I rfl) rfl (by show 2 * 0 + _ ≤ _; exact Nat.le_of_eq rfl) (hb hby at_183) (fun _ _ => ⟨rfl, rfl, (by decide : 14 + 0 ≤ _), (by decide : 45 + 0 ≤ _)⟩)
  dsimp only [Pt.U, Pt.locs, Pt.cells, Pt.slots] at X255 l255 y255 z255 st255 hQ255
  subst l255 y255 z255
  obtain ⟨rfl, N255q, Kc255, p255_0⟩ := hQ255
  have N255 := Fr.app N235 N255q
  refine OG.step (fun tz kz => st255.trans kz) ?_
  have f256 := f236.keep Kc255
  have f257 := f237.keep Kc255 (ninS ne21_b3_ap_21 nin0)
  have f258 := f238.keep Kc255 (ninS ne21_b1_ap_21 nin0)
  have f259 := f239.keep Kc255 (ninS ne21_gs_8_ap_21 nin0)
  have f260 := f240.keep Kc255
  have f261 := f241.keep Kc255 (ninS ne21_b15_ap_21 nin0)
  have f262 := f242.keep Kc255 (ninS ne21_b15_ap_21 nin0)
  have f263 := f243.keep Kc255 (ninS ne21_b15_ap_21 nin0)
  have f264 := f244.keep Kc255 (ninS ne21_b15_ap_21 nin0)
  have f265 := f245.keep Kc255 (ninS ne21_b15_ap_21 nin0)
  have f266 := f246.keep Kc255 (ninS (Ne.symm ne122_ap_21) nin0)
  have f268 := f249.keep Kc255 (ninS (Ne.symm u21_4) nin0)
  have f269 := f250.keep Kc255 (ninS (Ne.symm u21_5) nin0)
  have f270 := f251.keep Kc255 (ninS (Ne.symm u21_6) nin0)
  have f271 := p235_0.keep Kc255 (ninS (Ne.symm ne34_ap_21) nin0)
  have K255 := K235.trans Kc255 (allS (Or.inr sz21_ap_21) all0)
  obtain ⟨Lz272, X255, N255⟩ : ∃ Lz, Stand p l e room_1 s m #[(.int p0), (.int p1), (.int p2), (.int p3), (.int p4)] below meth c T255 Lz 14 45 ∧ Fr n0 Lz := ⟨_, X255, N255⟩
  show OG _ _ _ _ _ _ _ (T255.setTop (mkF m 186 #[.val (.int p0), .val (.int p1), .val (.int p2), .val (.int p3), .val (.int p4), .val (.ref b1), .val (.ref b15), .val (.ref b34), .val (.ref b122), .val (.int (Int32.ofNat c0)), .val (.int (Int32.ofNat c1)), .val (.int (Int32.ofNat c2)), .val (.int (Int32.ofNat c3)), .val (.int (Int32.ofNat c4)), .val (.int (Int32.ofNat c5)), .val (.int (Int32.ofNat s0)), .val (.int (Int32.ofNat s0)), .val (.int (Int32.ofNat ((s0 + 1) % 4))), .val (.int (Int32.ofNat ((s0 + 2) % 4))), .val (.int (Int32.ofNat ((s0 + 3) % 4))), .unset, .unset, .unset] [(.int (Int32.ofNat (own_rt Pa2_216 4 s0))), (.int (Int32.ofNat s0)), (.ref b122)]))
  have av273 := f266
  obtain ⟨cl273, Ar273, qa_273, Sa_273, Nn_273, Ha_273, Ga_273⟩ := av273
  have hin273 : ¬ ((Int32.ofNat s0) < 0 ∨ cl273.slots.size ≤ ((Int32.ofNat s0)).toNatClampNeg) := inb_of Sa_273 ⟨(own_x4 hs0).1, (own_x4 hs0).2.1⟩
  obtain ⟨T274, h274, X274, e274, W274, st274⟩ := stI X255 hx hZ rfl Ar273 (j := (Int32.ofNat s0)) hin273 (g := (mkF m 186 #[.val (.int p0), .val (.int p1), .val (.int p2), .val (.int p3), .val (.int p4), .val (.ref b1), .val (.ref b15), .val (.ref b34), .val (.ref b122), .val (.int (Int32.ofNat c0)), .val (.int (Int32.ofNat c1)), .val (.int (Int32.ofNat c2)), .val (.int (Int32.ofNat c3)), .val (.int (Int32.ofNat c4)), .val (.int (Int32.ofNat c5)), .val (.int (Int32.ofNat s0)), .val (.int (Int32.ofNat s0)), .val (.int (Int32.ofNat ((s0 + 1) % 4))), .val (.int (Int32.ofNat ((s0 + 2) % 4))), .val (.int (Int32.ofNat ((s0 + 3) % 4))), .unset, .unset, .unset] [(.int (Int32.ofNat (own_rt Pa2_216 4 s0))), (.int (Int32.ofNat s0)), (.ref b122)])) rfl rfl (hb hby at_186)
  refine OG.step st274 ?_
  have Va274 := Arv.set Ar273 qa_273 Sa_273 Nn_273 Ha_273 Ga_273 rfl W274 (s0) (own_x4 hs0).2.2 (own_len (by first | rfl | (simp only [List.length_set]; rfl)) hs0)
  have Va274 : Arv Z h274 b122 k122 .int (4 : Int32) ((own_vl [0, 0, 0, 0]).set s0 (.int (Int32.ofNat (own_rt Pa2_216 4 s0)))) (.int (0 : Int32)) := Va274
  have V274 : Arv Z h274 b122 k122 .int (4 : Int32) (own_vl (([0, 0, 0, 0]).set s0 (own_rt Pa2_216 4 s0))) (.int (0 : Int32)) := by rw [own_set ([0, 0, 0, 0]) s0 (own_rt Pa2_216 4 s0)] at Va274; exact Va274
  have f275 := f256.wr W274
  have f276 := f257.other W274 ne122_b3
  have f277 := f258.other W274 (Or.inl ne122_b1)
  have f278 := f259.other W274 ne122_gs_8
  have f279 := f260.wr W274
  have f280 := f261.other W274 (Or.inl ne122_b15)
  have f281 := f262.other W274 (Or.inl ne122_b15)
  have f282 := f263.other W274 (Or.inl ne122_b15)
  have f283 := f264.other W274 (Or.inl ne122_b15)
  have f284 := f265.other W274 (Or.inl ne122_b15)
  have f285 := f268.other W274 ne122_az_21
  have f286 := f269.other W274 ne122_an_21
  have f287 := f270.other W274 ne122_al_21
  have f288 := f271.other W274 ne122_b34
  have f289 := p255_0.other W274 ne122_ap_21
  have K274 := K255.wr W274 (Or.inr sz122)
  have N274 := Fr.snoc X274 N255 ge122
  obtain ⟨Lz290, X274, N274⟩ : ∃ Lz, Stand p l e room_1 s m #[(.int p0), (.int p1), (.int p2), (.int p3), (.int p4)] below meth c T274 Lz 14 45 ∧ Fr n0 Lz := ⟨_, X274, N274⟩
  show OG _ _ _ _ _ _ _ (T274.setTop (mkF m 187 #[.val (.int p0), .val (.int p1), .val (.int p2), .val (.int p3), .val (.int p4), .val (.ref b1), .val (.ref b15), .val (.ref b34), .val (.ref b122), .val (.int (Int32.ofNat c0)), .val (.int (Int32.ofNat c1)), .val (.int (Int32.ofNat c2)), .val (.int (Int32.ofNat c3)), .val (.int (Int32.ofNat c4)), .val (.int (Int32.ofNat c5)), .val (.int (Int32.ofNat s0)), .val (.int (Int32.ofNat s0)), .val (.int (Int32.ofNat ((s0 + 1) % 4))), .val (.int (Int32.ofNat ((s0 + 2) % 4))), .val (.int (Int32.ofNat ((s0 + 3) % 4))), .unset, .unset, .unset] []))
  have s291 : ∀ tz, Steps p.tables e below (T274.setTop (mkF m 195 #[.val (.int p0), .val (.int p1), .val (.int p2), .val (.int p3), .val (.int p4), .val (.ref b1), .val (.ref b15), .val (.ref b34), .val (.ref b122), .val (.int (Int32.ofNat c0)), .val (.int (Int32.ofNat c1)), .val (.int (Int32.ofNat c2)), .val (.int (Int32.ofNat c3)), .val (.int (Int32.ofNat c4)), .val (.int (Int32.ofNat c5)), .val (.int (Int32.ofNat s0)), .val (.int (Int32.ofNat s0)), .val (.int (Int32.ofNat ((s0 + 1) % 4))), .val (.int (Int32.ofNat ((s0 + 2) % 4))), .val (.int (Int32.ofNat ((s0 + 3) % 4))), .unset, .unset, .unset] [(.int (Int32.ofNat ((s0 + 1) % 4))), (.ref b15), (.int (Int32.ofNat ((s0 + 1) % 4))), (.ref b122)])) tz → Steps p.tables e below (T274.setTop (mkF m 187 #[.val (.int p0), .val (.int p1), .val (.int p2), .val (.int p3), .val (.int p4), .val (.ref b1), .val (.ref b15), .val (.ref b34), .val (.ref b122), .val (.int (Int32.ofNat c0)), .val (.int (Int32.ofNat c1)), .val (.int (Int32.ofNat c2)), .val (.int (Int32.ofNat c3)), .val (.int (Int32.ofNat c4)), .val (.int (Int32.ofNat c5)), .val (.int (Int32.ofNat s0)), .val (.int (Int32.ofNat s0)), .val (.int (Int32.ofNat ((s0 + 1) % 4))), .val (.int (Int32.ofNat ((s0 + 2) % 4))), .val (.int (Int32.ofNat ((s0 + 3) % 4))), .unset, .unset, .unset] [])) tz := by
    intro tz kz
    refine XS.aload X274.here hx rfl (hb hby at_187) rfl rfl ?_
    refine XS.iload X274.here hx rfl (hb hby at_189) rfl ?_
    refine XS.aload X274.here hx rfl (hb hby at_191) rfl rfl ?_
    refine XS.iload X274.here hx rfl (hb hby at_193) rfl ?_
    exact kz
  refine OG.step s291 ?_
  obtain ⟨cq292, kq292, q292a, q292b, q292c⟩ := isOf hZ e274 f279
  obtain ⟨_, _, ⟨T292, L292, k292, n292⟩, -, X292, ⟨Lc292, hQ292, l292, y292, z292⟩, st292⟩ := X274.virtualBack hx (y := (⟨"com/example/tidegraph/tidegraph/amd64/LiveRanges", "find", "(I)I"⟩ : MethodName)) (z := (⟨"com/example/tidegraph/tidegraph/amd64/LiveRanges", "find", "(I)I"⟩ : MethodName)) hown (mvT hZ (hw _ (List.mem_of_getElem? (i := 80) rfl))) (mvT hZ (hw _ (List.mem_of_getElem? (i := 62) rfl))) (notFace_of_selects (args := #[]) (mvT hZ (hw _ (List.mem_of_getElem? (i := 64) rfl)))) (mvT hZ (hw _ (List.mem_of_getElem? (i := 64) rfl))) (mvT hZ (hw _ (List.mem_of_getElem? (i := 63) rfl))) (by decide) (backOf (W := 2) (rm8 l Z a0 hw [] b15 ((s0 + 1) % 4) ap_21 kp_21 (own_fc Pa2_216 s0) h274 n0 (Nat.le_trans Z0 K274.1) f281 f289 ne21_b15_ap_21 ge21_ap_21 hs1 hch.2.1) hZ (hw _ (List.mem_of_getElem? (i := 65) rfl)) (hw _ (List.mem_of_getElem? (i := 41) rfl)) (by decide) (by decide)) q292a q292c (g := (mkF m 195 #[.val (.int p0), .val (.int p1), .val (.int p2), .val (.int p3), .val (.int p4), .val (.ref b1), .val (.ref b15), .val (.ref b34), .val (.ref b122), .val (.int (Int32.ofNat c0)), .val (.int (Int32.ofNat c1)), .val (.int (Int32.ofNat c2)), .val (.int (Int32.ofNat c3)), .val (.int (Int32.ofNat c4)), .val (.int (Int32.ofNat c5)), .val (.int (Int32.ofNat s0)), .val (.int (Int32.ofNat s0)), .val (.int (Int32.ofNat ((s0 + 1) % 4))), .val (.int (Int32.ofNat ((s0 + 2) % 4))), .val (.int (Int32.ofNat ((s0 + 3) % 4))), .unset, .unset, .unset] [(.int (Int32.ofNat ((s0 + 1) % 4))), (.ref b15), (.int (Int32.ofNat ((s0 + 1) % 4))), (.ref b122)])) rfl (by rw [hml]; rfl) (Steps.refl _) (argsL := [(.int (Int32.ofNat ((s0 + 1) % 4)))]) (rest := [(.int (Int32.ofNat ((s0 + 1) % 4))), (.ref b122)]) (lenOf pd__I_I rfl) rfl (by show 2 * 0 + _ ≤ _; exact Nat.le_of_eq rfl) (hb hby at_195) (fun _ _ => ⟨rfl, e274, (by decide : 14 + 0 ≤ _), (by decide : 45 + 0 ≤ _)⟩)
  dsimp only [Pt.U, Pt.locs, Pt.cells, Pt.slots] at X292 l292 y292 z292 st292 hQ292
  subst l292 y292 z292
  obtain ⟨rfl, N292q, Kc292, p292_0⟩ := hQ292
  have N292 := Fr.app N274 N292q
  refine OG.step (fun tz kz => st292.trans kz) ?_
  have f293 := f275.keep Kc292
  have f294 := f276.keep Kc292 (ninS ne21_b3_ap_21 nin0)
  have f295 := f277.keep Kc292 (ninS ne21_b1_ap_21 nin0)
  have f296 := f278.keep Kc292 (ninS ne21_gs_8_ap_21 nin0)
  have f297 := f279.keep Kc292
  have f298 := f280.keep Kc292 (ninS ne21_b15_ap_21 nin0)
  have f299 := f281.keep Kc292 (ninS ne21_b15_ap_21 nin0)
  have f300 := f282.keep Kc292 (ninS ne21_b15_ap_21 nin0)
  have f301 := f283.keep Kc292 (ninS ne21_b15_ap_21 nin0)
  have f302 := f284.keep Kc292 (ninS ne21_b15_ap_21 nin0)
  have f303 := f285.keep Kc292 (ninS (Ne.symm u21_4) nin0)
  have f304 := f286.keep Kc292 (ninS (Ne.symm u21_5) nin0)
  have f305 := f287.keep Kc292 (ninS (Ne.symm u21_6) nin0)
  have f306 := f288.keep Kc292 (ninS (Ne.symm ne34_ap_21) nin0)
  have f308 := V274.keep Kc292 (ninS (Ne.symm ne122_ap_21) nin0)
  have K292 := K274.trans Kc292 (allS (Or.inr sz21_ap_21) all0)
  obtain ⟨Lz309, X292, N292⟩ : ∃ Lz, Stand p l e room_1 s m #[(.int p0), (.int p1), (.int p2), (.int p3), (.int p4)] below meth c T292 Lz 14 45 ∧ Fr n0 Lz := ⟨_, X292, N292⟩
  show OG _ _ _ _ _ _ _ (T292.setTop (mkF m 198 #[.val (.int p0), .val (.int p1), .val (.int p2), .val (.int p3), .val (.int p4), .val (.ref b1), .val (.ref b15), .val (.ref b34), .val (.ref b122), .val (.int (Int32.ofNat c0)), .val (.int (Int32.ofNat c1)), .val (.int (Int32.ofNat c2)), .val (.int (Int32.ofNat c3)), .val (.int (Int32.ofNat c4)), .val (.int (Int32.ofNat c5)), .val (.int (Int32.ofNat s0)), .val (.int (Int32.ofNat s0)), .val (.int (Int32.ofNat ((s0 + 1) % 4))), .val (.int (Int32.ofNat ((s0 + 2) % 4))), .val (.int (Int32.ofNat ((s0 + 3) % 4))), .unset, .unset, .unset] [(.int (Int32.ofNat (own_rt (own_fc Pa2_216 s0) 4 ((s0 + 1) % 4)))), (.int (Int32.ofNat ((s0 + 1) % 4))), (.ref b122)]))
  have av310 := f308
  obtain ⟨cl310, Ar310, qa_310, Sa_310, Nn_310, Ha_310, Ga_310⟩ := av310
  have hin310 : ¬ ((Int32.ofNat ((s0 + 1) % 4)) < 0 ∨ cl310.slots.size ≤ ((Int32.ofNat ((s0 + 1) % 4))).toNatClampNeg) := inb_of Sa_310 ⟨(own_x4 hs1).1, (own_x4 hs1).2.1⟩
  obtain ⟨T311, h311, X311, e311, W311, st311⟩ := stI X292 hx hZ rfl Ar310 (j := (Int32.ofNat ((s0 + 1) % 4))) hin310 (g := (mkF m 198 #[.val (.int p0), .val (.int p1), .val (.int p2), .val (.int p3), .val (.int p4), .val (.ref b1), .val (.ref b15), .val (.ref b34), .val (.ref b122), .val (.int (Int32.ofNat c0)), .val (.int (Int32.ofNat c1)), .val (.int (Int32.ofNat c2)), .val (.int (Int32.ofNat c3)), .val (.int (Int32.ofNat c4)), .val (.int (Int32.ofNat c5)), .val (.int (Int32.ofNat s0)), .val (.int (Int32.ofNat s0)), .val (.int (Int32.ofNat ((s0 + 1) % 4))), .val (.int (Int32.ofNat ((s0 + 2) % 4))), .val (.int (Int32.ofNat ((s0 + 3) % 4))), .unset, .unset, .unset] [(.int (Int32.ofNat (own_rt (own_fc Pa2_216 s0) 4 ((s0 + 1) % 4)))), (.int (Int32.ofNat ((s0 + 1) % 4))), (.ref b122)])) rfl rfl (hb hby at_198)
  refine OG.step st311 ?_
  have Va311 := Arv.set Ar310 qa_310 Sa_310 Nn_310 Ha_310 Ga_310 rfl W311 (((s0 + 1) % 4)) (own_x4 hs1).2.2 (own_len (by first | rfl | (simp only [List.length_set]; rfl)) hs1)
  have Va311 : Arv Z h311 b122 k122 .int (4 : Int32) ((own_vl (([0, 0, 0, 0]).set s0 (own_rt Pa2_216 4 s0))).set ((s0 + 1) % 4) (.int (Int32.ofNat (own_rt (own_fc Pa2_216 s0) 4 ((s0 + 1) % 4))))) (.int (0 : Int32)) := Va311
  have V311 : Arv Z h311 b122 k122 .int (4 : Int32) (own_vl ((([0, 0, 0, 0]).set s0 (own_rt Pa2_216 4 s0)).set ((s0 + 1) % 4) (own_rt (own_fc Pa2_216 s0) 4 ((s0 + 1) % 4)))) (.int (0 : Int32)) := by rw [own_set (([0, 0, 0, 0]).set s0 (own_rt Pa2_216 4 s0)) ((s0 + 1) % 4) (own_rt (own_fc Pa2_216 s0) 4 ((s0 + 1) % 4))] at Va311; exact Va311
  have f312 := f293.wr W311
  have f313 := f294.other W311 ne122_b3
  have f314 := f295.other W311 (Or.inl ne122_b1)
  have f315 := f296.other W311 ne122_gs_8
  have f316 := f297.wr W311
  have f317 := f298.other W311 (Or.inl ne122_b15)
  have f318 := f299.other W311 (Or.inl ne122_b15)
  have f319 := f300.other W311 (Or.inl ne122_b15)
  have f320 := f301.other W311 (Or.inl ne122_b15)
  have f321 := f302.other W311 (Or.inl ne122_b15)
  have f322 := f303.other W311 ne122_az_21
  have f323 := f304.other W311 ne122_an_21
  have f324 := f305.other W311 ne122_al_21
  have f325 := f306.other W311 ne122_b34
  have f326 := p292_0.other W311 ne122_ap_21
  have K311 := K292.wr W311 (Or.inr sz122)
  have N311 := Fr.snoc X311 N292 ge122
  obtain ⟨Lz327, X311, N311⟩ : ∃ Lz, Stand p l e room_1 s m #[(.int p0), (.int p1), (.int p2), (.int p3), (.int p4)] below meth c T311 Lz 14 45 ∧ Fr n0 Lz := ⟨_, X311, N311⟩
  show OG _ _ _ _ _ _ _ (T311.setTop (mkF m 199 #[.val (.int p0), .val (.int p1), .val (.int p2), .val (.int p3), .val (.int p4), .val (.ref b1), .val (.ref b15), .val (.ref b34), .val (.ref b122), .val (.int (Int32.ofNat c0)), .val (.int (Int32.ofNat c1)), .val (.int (Int32.ofNat c2)), .val (.int (Int32.ofNat c3)), .val (.int (Int32.ofNat c4)), .val (.int (Int32.ofNat c5)), .val (.int (Int32.ofNat s0)), .val (.int (Int32.ofNat s0)), .val (.int (Int32.ofNat ((s0 + 1) % 4))), .val (.int (Int32.ofNat ((s0 + 2) % 4))), .val (.int (Int32.ofNat ((s0 + 3) % 4))), .unset, .unset, .unset] []))
  have s328 : ∀ tz, Steps p.tables e below (T311.setTop (mkF m 207 #[.val (.int p0), .val (.int p1), .val (.int p2), .val (.int p3), .val (.int p4), .val (.ref b1), .val (.ref b15), .val (.ref b34), .val (.ref b122), .val (.int (Int32.ofNat c0)), .val (.int (Int32.ofNat c1)), .val (.int (Int32.ofNat c2)), .val (.int (Int32.ofNat c3)), .val (.int (Int32.ofNat c4)), .val (.int (Int32.ofNat c5)), .val (.int (Int32.ofNat s0)), .val (.int (Int32.ofNat s0)), .val (.int (Int32.ofNat ((s0 + 1) % 4))), .val (.int (Int32.ofNat ((s0 + 2) % 4))), .val (.int (Int32.ofNat ((s0 + 3) % 4))), .unset, .unset, .unset] [(.int (Int32.ofNat ((s0 + 2) % 4))), (.ref b15), (.int (Int32.ofNat ((s0 + 2) % 4))), (.ref b122)])) tz → Steps p.tables e below (T311.setTop (mkF m 199 #[.val (.int p0), .val (.int p1), .val (.int p2), .val (.int p3), .val (.int p4), .val (.ref b1), .val (.ref b15), .val (.ref b34), .val (.ref b122), .val (.int (Int32.ofNat c0)), .val (.int (Int32.ofNat c1)), .val (.int (Int32.ofNat c2)), .val (.int (Int32.ofNat c3)), .val (.int (Int32.ofNat c4)), .val (.int (Int32.ofNat c5)), .val (.int (Int32.ofNat s0)), .val (.int (Int32.ofNat s0)), .val (.int (Int32.ofNat ((s0 + 1) % 4))), .val (.int (Int32.ofNat ((s0 + 2) % 4))), .val (.int (Int32.ofNat ((s0 + 3) % 4))), .unset, .unset, .unset] [])) tz := by
    intro tz kz
    refine XS.aload X311.here hx rfl (hb hby at_199) rfl rfl ?_
    refine XS.iload X311.here hx rfl (hb hby at_201) rfl ?_
    refine XS.aload X311.here hx rfl (hb hby at_203) rfl rfl ?_
    refine XS.iload X311.here hx rfl (hb hby at_205) rfl ?_
    exact kz
  refine OG.step s328 ?_
  obtain ⟨cq329, kq329, q329a, q329b, q329c⟩ := isOf hZ e311 f316
  obtain ⟨_, _, ⟨T329, L329, k329, n329⟩, -, X329, ⟨Lc329, hQ329, l329, y329, z329⟩, st329⟩ := X311.virtualBack hx (y := (⟨"com/example/tidegraph/tidegraph/amd64/LiveRanges", "find", "(I)I"⟩ : MethodName)) (z := (⟨"com/example/tidegraph/tidegraph/amd64/LiveRanges", "find", "(I)I"⟩ : MethodName)) hown (mvT hZ (hw _ (List.mem_of_getElem? (i := 80) rfl))) (mvT hZ (hw _ (List.mem_of_getElem? (i := 62) rfl))) (notFace_of_selects (args := #[]) (mvT hZ (hw _ (List.mem_of_getElem? (i := 64) rfl)))) (mvT hZ (hw _ (List.mem_of_getElem? (i := 64) rfl))) (mvT hZ (hw _ (List.mem_of_getElem? (i := 63) rfl))) (by decide) (backOf (W := 2) (rm8 l Z a0 hw [] b15 ((s0 + 2) % 4) ap_21 kp_21 (own_fc (own_fc Pa2_216 s0) ((s0 + 1) % 4)) h311 n0 (Nat.le_trans Z0 K311.1) f318 f326 ne21_b15_ap_21 ge21_ap_21 hs2 hch.2.2.1) hZ (hw _ (List.mem_of_getElem? (i := 65) rfl)) (hw _ (List.mem_of_getElem? (i := 41) rfl)) (by decide) (by decide)) q329a q329c (g := (mkF m 207 #[.val (.int p0), .val (.int p1), .val (.int p2), .val (.int p3), .val (.int p4), .val (.ref b1), .val (.ref b15), .val (.ref b34), .val (.ref b122), .val (.int (Int32.ofNat c0)), .val (.int (Int32.ofNat c1)), .val (.int (Int32.ofNat c2)), .val (.int (Int32.ofNat c3)), .val (.int (Int32.ofNat c4)), .val (.int (Int32.ofNat c5)), .val (.int (Int32.ofNat s0)), .val (.int (Int32.ofNat s0)), .val (.int (Int32.ofNat ((s0 + 1) % 4))), .val (.int (Int32.ofNat ((s0 + 2) % 4))), .val (.int (Int32.ofNat ((s0 + 3) % 4))), .unset, .unset, .unset] [(.int (Int32.ofNat ((s0 + 2) % 4))), (.ref b15), (.int (Int32.ofNat ((s0 + 2) % 4))), (.ref b122)])) rfl (by rw [hml]; rfl) (Steps.refl _) (argsL := [(.int (Int32.ofNat ((s0 + 2) % 4)))]) (rest := [(.int (Int32.ofNat ((s0 + 2) % 4))), (.ref b122)]) (lenOf pd__I_I rfl) rfl (by show 2 * 0 + _ ≤ _; exact Nat.le_of_eq rfl) (hb hby at_207) (fun _ _ => ⟨rfl, e311, (by decide : 14 + 0 ≤ _), (by decide : 45 + 0 ≤ _)⟩)
  dsimp only [Pt.U, Pt.locs, Pt.cells, Pt.slots] at X329 l329 y329 z329 st329 hQ329
  subst l329 y329 z329
  obtain ⟨rfl, N329q, Kc329, p329_0⟩ := hQ329
  have N329 := Fr.app N311 N329q
  refine OG.step (fun tz kz => st329.trans kz) ?_
  have f330 := f312.keep Kc329
  have f331 := f313.keep Kc329 (ninS ne21_b3_ap_21 nin0)
  have f332 := f314.keep Kc329 (ninS ne21_b1_ap_21 nin0)
  have f333 := f315.keep Kc329 (ninS ne21_gs_8_ap_21 nin0)
  have f334 := f316.keep Kc329
  have f335 := f317.keep Kc329 (ninS ne21_b15_ap_21 nin0)
  have f336 := f318.keep Kc329 (ninS ne21_b15_ap_21 nin0)
  have f337 := f319.keep Kc329 (ninS ne21_b15_ap_21 nin0)
  have f338 := f320.keep Kc329 (ninS ne21_b15_ap_21 nin0)
  have f339 := f321.keep Kc329 (ninS ne21_b15_ap_21 nin0)
  have f340 := f322.keep Kc329 (ninS (Ne.symm u21_4) nin0)
  have f341 := f323.keep Kc329 (ninS (Ne.symm u21_5) nin0)
  have f342 := f324.keep Kc329 (ninS (Ne.symm u21_6) nin0)
  have f343 := f325.keep Kc329 (ninS (Ne.symm ne34_ap_21) nin0)
  have f345 := V311.keep Kc329 (ninS (Ne.symm ne122_ap_21) nin0)
  have K329 := K311.trans Kc329 (allS (Or.inr sz21_ap_21) all0)
  obtain ⟨Lz346, X329, N329⟩ : ∃ Lz, Stand p l e room_1 s m #[(.int p0), (.int p1), (.int p2), (.int p3), (.int p4)] below meth c T329 Lz 14 45 ∧ Fr n0 Lz := ⟨_, X329, N329⟩
  show OG _ _ _ _ _ _ _ (T329.setTop (mkF m 210 #[.val (.int p0), .val (.int p1), .val (.int p2), .val (.int p3), .val (.int p4), .val (.ref b1), .val (.ref b15), .val (.ref b34), .val (.ref b122), .val (.int (Int32.ofNat c0)), .val (.int (Int32.ofNat c1)), .val (.int (Int32.ofNat c2)), .val (.int (Int32.ofNat c3)), .val (.int (Int32.ofNat c4)), .val (.int (Int32.ofNat c5)), .val (.int (Int32.ofNat s0)), .val (.int (Int32.ofNat s0)), .val (.int (Int32.ofNat ((s0 + 1) % 4))), .val (.int (Int32.ofNat ((s0 + 2) % 4))), .val (.int (Int32.ofNat ((s0 + 3) % 4))), .unset, .unset, .unset] [(.int (Int32.ofNat (own_rt (own_fc (own_fc Pa2_216 s0) ((s0 + 1) % 4)) 4 ((s0 + 2) % 4)))), (.int (Int32.ofNat ((s0 + 2) % 4))), (.ref b122)]))
  have av347 := f345
  obtain ⟨cl347, Ar347, qa_347, Sa_347, Nn_347, Ha_347, Ga_347⟩ := av347
  have hin347 : ¬ ((Int32.ofNat ((s0 + 2) % 4)) < 0 ∨ cl347.slots.size ≤ ((Int32.ofNat ((s0 + 2) % 4))).toNatClampNeg) := inb_of Sa_347 ⟨(own_x4 hs2).1, (own_x4 hs2).2.1⟩
  obtain ⟨T348, h348, X348, e348, W348, st348⟩ := stI X329 hx hZ rfl Ar347 (j := (Int32.ofNat ((s0 + 2) % 4))) hin347 (g := (mkF m 210 #[.val (.int p0), .val (.int p1), .val (.int p2), .val (.int p3), .val (.int p4), .val (.ref b1), .val (.ref b15), .val (.ref b34), .val (.ref b122), .val (.int (Int32.ofNat c0)), .val (.int (Int32.ofNat c1)), .val (.int (Int32.ofNat c2)), .val (.int (Int32.ofNat c3)), .val (.int (Int32.ofNat c4)), .val (.int (Int32.ofNat c5)), .val (.int (Int32.ofNat s0)), .val (.int (Int32.ofNat s0)), .val (.int (Int32.ofNat ((s0 + 1) % 4))), .val (.int (Int32.ofNat ((s0 + 2) % 4))), .val (.int (Int32.ofNat ((s0 + 3) % 4))), .unset, .unset, .unset] [(.int (Int32.ofNat (own_rt (own_fc (own_fc Pa2_216 s0) ((s0 + 1) % 4)) 4 ((s0 + 2) % 4)))), (.int (Int32.ofNat ((s0 + 2) % 4))), (.ref b122)])) rfl rfl (hb hby at_210)
  refine OG.step st348 ?_
  have Va348 := Arv.set Ar347 qa_347 Sa_347 Nn_347 Ha_347 Ga_347 rfl W348 (((s0 + 2) % 4)) (own_x4 hs2).2.2 (own_len (by first | rfl | (simp only [List.length_set]; rfl)) hs2)
  have Va348 : Arv Z h348 b122 k122 .int (4 : Int32) ((own_vl ((([0, 0, 0, 0]).set s0 (own_rt Pa2_216 4 s0)).set ((s0 + 1) % 4) (own_rt (own_fc Pa2_216 s0) 4 ((s0 + 1) % 4)))).set ((s0 + 2) % 4) (.int (Int32.ofNat (own_rt (own_fc (own_fc Pa2_216 s0) ((s0 + 1) % 4)) 4 ((s0 + 2) % 4))))) (.int (0 : Int32)) := Va348
  have V348 : Arv Z h348 b122 k122 .int (4 : Int32) (own_vl (((([0, 0, 0, 0]).set s0 (own_rt Pa2_216 4 s0)).set ((s0 + 1) % 4) (own_rt (own_fc Pa2_216 s0) 4 ((s0 + 1) % 4))).set ((s0 + 2) % 4) (own_rt (own_fc (own_fc Pa2_216 s0) ((s0 + 1) % 4)) 4 ((s0 + 2) % 4)))) (.int (0 : Int32)) := by rw [own_set ((([0, 0, 0, 0]).set s0 (own_rt Pa2_216 4 s0)).set ((s0 + 1) % 4) (own_rt (own_fc Pa2_216 s0) 4 ((s0 + 1) % 4))) ((s0 + 2) % 4) (own_rt (own_fc (own_fc Pa2_216 s0) ((s0 + 1) % 4)) 4 ((s0 + 2) % 4))] at Va348; exact Va348
  have f349 := f330.wr W348
  have f350 := f331.other W348 ne122_b3
  have f351 := f332.other W348 (Or.inl ne122_b1)
  have f352 := f333.other W348 ne122_gs_8
  have f353 := f334.wr W348
  have f354 := f335.other W348 (Or.inl ne122_b15)
  have f355 := f336.other W348 (Or.inl ne122_b15)
  have f356 := f337.other W348 (Or.inl ne122_b15)
  have f357 := f338.other W348 (Or.inl ne122_b15)
  have f358 := f339.other W348 (Or.inl ne122_b15)
  have f359 := f340.other W348 ne122_az_21
  have f360 := f341.other W348 ne122_an_21
  have f361 := f342.other W348 ne122_al_21
  have f362 := f343.other W348 ne122_b34
  have f363 := p329_0.other W348 ne122_ap_21
  have K348 := K329.wr W348 (Or.inr sz122)
  have N348 := Fr.snoc X348 N329 ge122
  obtain ⟨Lz364, X348, N348⟩ : ∃ Lz, Stand p l e room_1 s m #[(.int p0), (.int p1), (.int p2), (.int p3), (.int p4)] below meth c T348 Lz 14 45 ∧ Fr n0 Lz := ⟨_, X348, N348⟩
  show OG _ _ _ _ _ _ _ (T348.setTop (mkF m 211 #[.val (.int p0), .val (.int p1), .val (.int p2), .val (.int p3), .val (.int p4), .val (.ref b1), .val (.ref b15), .val (.ref b34), .val (.ref b122), .val (.int (Int32.ofNat c0)), .val (.int (Int32.ofNat c1)), .val (.int (Int32.ofNat c2)), .val (.int (Int32.ofNat c3)), .val (.int (Int32.ofNat c4)), .val (.int (Int32.ofNat c5)), .val (.int (Int32.ofNat s0)), .val (.int (Int32.ofNat s0)), .val (.int (Int32.ofNat ((s0 + 1) % 4))), .val (.int (Int32.ofNat ((s0 + 2) % 4))), .val (.int (Int32.ofNat ((s0 + 3) % 4))), .unset, .unset, .unset] []))
  have s365 : ∀ tz, Steps p.tables e below (T348.setTop (mkF m 219 #[.val (.int p0), .val (.int p1), .val (.int p2), .val (.int p3), .val (.int p4), .val (.ref b1), .val (.ref b15), .val (.ref b34), .val (.ref b122), .val (.int (Int32.ofNat c0)), .val (.int (Int32.ofNat c1)), .val (.int (Int32.ofNat c2)), .val (.int (Int32.ofNat c3)), .val (.int (Int32.ofNat c4)), .val (.int (Int32.ofNat c5)), .val (.int (Int32.ofNat s0)), .val (.int (Int32.ofNat s0)), .val (.int (Int32.ofNat ((s0 + 1) % 4))), .val (.int (Int32.ofNat ((s0 + 2) % 4))), .val (.int (Int32.ofNat ((s0 + 3) % 4))), .unset, .unset, .unset] [(.int (Int32.ofNat ((s0 + 3) % 4))), (.ref b15), (.int (Int32.ofNat ((s0 + 3) % 4))), (.ref b122)])) tz → Steps p.tables e below (T348.setTop (mkF m 211 #[.val (.int p0), .val (.int p1), .val (.int p2), .val (.int p3), .val (.int p4), .val (.ref b1), .val (.ref b15), .val (.ref b34), .val (.ref b122), .val (.int (Int32.ofNat c0)), .val (.int (Int32.ofNat c1)), .val (.int (Int32.ofNat c2)), .val (.int (Int32.ofNat c3)), .val (.int (Int32.ofNat c4)), .val (.int (Int32.ofNat c5)), .val (.int (Int32.ofNat s0)), .val (.int (Int32.ofNat s0)), .val (.int (Int32.ofNat ((s0 + 1) % 4))), .val (.int (Int32.ofNat ((s0 + 2) % 4))), .val (.int (Int32.ofNat ((s0 + 3) % 4))), .unset, .unset, .unset] [])) tz := by
    intro tz kz
    refine XS.aload X348.here hx rfl (hb hby at_211) rfl rfl ?_
    refine XS.iload X348.here hx rfl (hb hby at_213) rfl ?_
    refine XS.aload X348.here hx rfl (hb hby at_215) rfl rfl ?_
    refine XS.iload X348.here hx rfl (hb hby at_217) rfl ?_
    exact kz
  refine OG.step s365 ?_
  obtain ⟨cq366, kq366, q366a, q366b, q366c⟩ := isOf hZ e348 f353
  obtain ⟨_, _, ⟨T366, L366, k366, n366⟩, -, X366, ⟨Lc366, hQ366, l366, y366, z366⟩, st366⟩ := X348.virtualBack hx (y := (⟨"com/example/tidegraph/tidegraph/amd64/LiveRanges", "find", "(I)I"⟩ : MethodName)) (z := (⟨"com/example/tidegraph/tidegraph/amd64/LiveRanges", "find", "(I)I"⟩ : MethodName)) hown (mvT hZ (hw _ (List.mem_of_getElem? (i := 80) rfl))) (mvT hZ (hw _ (List.mem_of_getElem? (i := 62) rfl))) (notFace_of_selects (args := #[]) (mvT hZ (hw _ (List.mem_of_getElem? (i := 64) rfl)))) (mvT hZ (hw _ (List.mem_of_getElem? (i := 64) rfl))) (mvT hZ (hw _ (List.mem_of_getElem? (i := 63) rfl))) (by decide) (backOf (W := 2) (rm8 l Z a0 hw [] b15 ((s0 + 3) % 4) ap_21 kp_21 (own_fc (own_fc (own_fc Pa2_216 s0) ((s0 + 1) % 4)) ((s0 + 2) % 4)) h348 n0 (Nat.le_trans Z0 K348.1) f355 f363 ne21_b15_ap_21 ge21_ap_21 hs3 hch.2.2.2.1) hZ (hw _ (List.mem_of_getElem? (i := 65) rfl)) (hw _ (List.mem_of_getElem? (i := 41) rfl)) (by decide) (by decide)) q366a q366c (g := (mkF m 219 #[.val (.int p0), .val (.int p1), .val (.int p2), .val (.int p3), .val (.int p4), .val (.ref b1), .val (.ref b15), .val (.ref b34), .val (.ref b122), .val (.int (Int32.ofNat c0)), .val (.int (Int32.ofNat c1)), .val (.int (Int32.ofNat c2)), .val (.int (Int32.ofNat c3)), .val (.int (Int32.ofNat c4)), .val (.int (Int32.ofNat c5)), .val (.int (Int32.ofNat s0)), .val (.int (Int32.ofNat s0)), .val (.int (Int32.ofNat ((s0 + 1) % 4))), .val (.int (Int32.ofNat ((s0 + 2) % 4))), .val (.int (Int32.ofNat ((s0 + 3) % 4))), .unset, .unset, .unset] [(.int (Int32.ofNat ((s0 + 3) % 4))), (.ref b15), (.int (Int32.ofNat ((s0 + 3) % 4))), (.ref b122)])) rfl (by rw [hml]; rfl) (Steps.refl _) (argsL := [(.int (Int32.ofNat ((s0 + 3) % 4)))]) (rest := [(.int (Int32.ofNat ((s0 + 3) % 4))), (.ref b122)]) (lenOf pd__I_I rfl) rfl (by show 2 * 0 + _ ≤ _; exact Nat.le_of_eq rfl) (hb hby at_219) (fun _ _ => ⟨rfl, e348, (by decide : 14 + 0 ≤ _), (by decide : 45 + 0 ≤ _)⟩)
  dsimp only [Pt.U, Pt.locs, Pt.cells, Pt.slots] at X366 l366 y366 z366 st366 hQ366
  subst l366 y366 z366
  obtain ⟨rfl, N366q, Kc366, p366_0⟩ := hQ366
  have N366 := Fr.app N348 N366q
  refine OG.step (fun tz kz => st366.trans kz) ?_
  have f367 := f349.keep Kc366
  have f368 := f350.keep Kc366 (ninS ne21_b3_ap_21 nin0)
  have f369 := f351.keep Kc366 (ninS ne21_b1_ap_21 nin0)
  have f370 := f352.keep Kc366 (ninS ne21_gs_8_ap_21 nin0)
  have f371 := f353.keep Kc366
  have f372 := f354.keep Kc366 (ninS ne21_b15_ap_21 nin0)
  have f373 := f355.keep Kc366 (ninS ne21_b15_ap_21 nin0)
  have f374 := f356.keep Kc366 (ninS ne21_b15_ap_21 nin0)
  have f375 := f357.keep Kc366 (ninS ne21_b15_ap_21 nin0)
  have f376 := f358.keep Kc366 (ninS ne21_b15_ap_21 nin0)
  have f377 := f359.keep Kc366 (ninS (Ne.symm u21_4) nin0)
  have f378 := f360.keep Kc366 (ninS (Ne.symm u21_5) nin0)
  have f379 := f361.keep Kc366 (ninS (Ne.symm u21_6) nin0)
  have f380 := f362.keep Kc366 (ninS (Ne.symm ne34_ap_21) nin0)
  have f382 := V348.keep Kc366 (ninS (Ne.symm ne122_ap_21) nin0)
  have K366 := K348.trans Kc366 (allS (Or.inr sz21_ap_21) all0)
  obtain ⟨Lz383, X366, N366⟩ : ∃ Lz, Stand p l e room_1 s m #[(.int p0), (.int p1), (.int p2), (.int p3), (.int p4)] below meth c T366 Lz 14 45 ∧ Fr n0 Lz := ⟨_, X366, N366⟩
  show OG _ _ _ _ _ _ _ (T366.setTop (mkF m 222 #[.val (.int p0), .val (.int p1), .val (.int p2), .val (.int p3), .val (.int p4), .val (.ref b1), .val (.ref b15), .val (.ref b34), .val (.ref b122), .val (.int (Int32.ofNat c0)), .val (.int (Int32.ofNat c1)), .val (.int (Int32.ofNat c2)), .val (.int (Int32.ofNat c3)), .val (.int (Int32.ofNat c4)), .val (.int (Int32.ofNat c5)), .val (.int (Int32.ofNat s0)), .val (.int (Int32.ofNat s0)), .val (.int (Int32.ofNat ((s0 + 1) % 4))), .val (.int (Int32.ofNat ((s0 + 2) % 4))), .val (.int (Int32.ofNat ((s0 + 3) % 4))), .unset, .unset, .unset] [(.int (Int32.ofNat (own_rt (own_fc (own_fc (own_fc Pa2_216 s0) ((s0 + 1) % 4)) ((s0 + 2) % 4)) 4 ((s0 + 3) % 4)))), (.int (Int32.ofNat ((s0 + 3) % 4))), (.ref b122)]))
  have av384 := f382
  obtain ⟨cl384, Ar384, qa_384, Sa_384, Nn_384, Ha_384, Ga_384⟩ := av384
  have hin384 : ¬ ((Int32.ofNat ((s0 + 3) % 4)) < 0 ∨ cl384.slots.size ≤ ((Int32.ofNat ((s0 + 3) % 4))).toNatClampNeg) := inb_of Sa_384 ⟨(own_x4 hs3).1, (own_x4 hs3).2.1⟩
  obtain ⟨T385, h385, X385, e385, W385, st385⟩ := stI X366 hx hZ rfl Ar384 (j := (Int32.ofNat ((s0 + 3) % 4))) hin384 (g := (mkF m 222 #[.val (.int p0), .val (.int p1), .val (.int p2), .val (.int p3), .val (.int p4), .val (.ref b1), .val (.ref b15), .val (.ref b34), .val (.ref b122), .val (.int (Int32.ofNat c0)), .val (.int (Int32.ofNat c1)), .val (.int (Int32.ofNat c2)), .val (.int (Int32.ofNat c3)), .val (.int (Int32.ofNat c4)), .val (.int (Int32.ofNat c5)), .val (.int (Int32.ofNat s0)), .val (.int (Int32.ofNat s0)), .val (.int (Int32.ofNat ((s0 + 1) % 4))), .val (.int (Int32.ofNat ((s0 + 2) % 4))), .val (.int (Int32.ofNat ((s0 + 3) % 4))), .unset, .unset, .unset] [(.int (Int32.ofNat (own_rt (own_fc (own_fc (own_fc Pa2_216 s0) ((s0 + 1) % 4)) ((s0 + 2) % 4)) 4 ((s0 + 3) % 4)))), (.int (Int32.ofNat ((s0 + 3) % 4))), (.ref b122)])) rfl rfl (hb hby at_222)
  refine OG.step st385 ?_
  have Va385 := Arv.set Ar384 qa_384 Sa_384 Nn_384 Ha_384 Ga_384 rfl W385 (((s0 + 3) % 4)) (own_x4 hs3).2.2 (own_len (by first | rfl | (simp only [List.length_set]; rfl)) hs3)
  have Va385 : Arv Z h385 b122 k122 .int (4 : Int32) ((own_vl (((([0, 0, 0, 0]).set s0 (own_rt Pa2_216 4 s0)).set ((s0 + 1) % 4) (own_rt (own_fc Pa2_216 s0) 4 ((s0 + 1) % 4))).set ((s0 + 2) % 4) (own_rt (own_fc (own_fc Pa2_216 s0) ((s0 + 1) % 4)) 4 ((s0 + 2) % 4)))).set ((s0 + 3) % 4) (.int (Int32.ofNat (own_rt (own_fc (own_fc (own_fc Pa2_216 s0) ((s0 + 1) % 4)) ((s0 + 2) % 4)) 4 ((s0 + 3) % 4))))) (.int (0 : Int32)) := Va385
  have V385 : Arv Z h385 b122 k122 .int (4 : Int32) (own_vl ((((([0, 0, 0, 0]).set s0 (own_rt Pa2_216 4 s0)).set ((s0 + 1) % 4) (own_rt (own_fc Pa2_216 s0) 4 ((s0 + 1) % 4))).set ((s0 + 2) % 4) (own_rt (own_fc (own_fc Pa2_216 s0) ((s0 + 1) % 4)) 4 ((s0 + 2) % 4))).set ((s0 + 3) % 4) (own_rt (own_fc (own_fc (own_fc Pa2_216 s0) ((s0 + 1) % 4)) ((s0 + 2) % 4)) 4 ((s0 + 3) % 4)))) (.int (0 : Int32)) := by rw [own_set (((([0, 0, 0, 0]).set s0 (own_rt Pa2_216 4 s0)).set ((s0 + 1) % 4) (own_rt (own_fc Pa2_216 s0) 4 ((s0 + 1) % 4))).set ((s0 + 2) % 4) (own_rt (own_fc (own_fc Pa2_216 s0) ((s0 + 1) % 4)) 4 ((s0 + 2) % 4))) ((s0 + 3) % 4) (own_rt (own_fc (own_fc (own_fc Pa2_216 s0) ((s0 + 1) % 4)) ((s0 + 2) % 4)) 4 ((s0 + 3) % 4))] at Va385; exact Va385
  have f386 := f367.wr W385
  have f387 := f368.other W385 ne122_b3
  have f388 := f369.other W385 (Or.inl ne122_b1)
  have f389 := f370.other W385 ne122_gs_8
  have f390 := f371.wr W385
  have f391 := f372.other W385 (Or.inl ne122_b15)
  have f392 := f373.other W385 (Or.inl ne122_b15)
  have f393 := f374.other W385 (Or.inl ne122_b15)
  have f394 := f375.other W385 (Or.inl ne122_b15)
  have f395 := f376.other W385 (Or.inl ne122_b15)
  have f396 := f377.other W385 ne122_az_21
  have f397 := f378.other W385 ne122_an_21
  have f398 := f379.other W385 ne122_al_21
  have f399 := f380.other W385 ne122_b34
  have f400 := p366_0.other W385 ne122_ap_21
  have K385 := K366.wr W385 (Or.inr sz122)
  have N385 := Fr.snoc X385 N366 ge122
  obtain ⟨Lz401, X385, N385⟩ : ∃ Lz, Stand p l e room_1 s m #[(.int p0), (.int p1), (.int p2), (.int p3), (.int p4)] below meth c T385 Lz 14 45 ∧ Fr n0 Lz := ⟨_, X385, N385⟩
  show OG _ _ _ _ _ _ _ (T385.setTop (mkF m 223 #[.val (.int p0), .val (.int p1), .val (.int p2), .val (.int p3), .val (.int p4), .val (.ref b1), .val (.ref b15), .val (.ref b34), .val (.ref b122), .val (.int (Int32.ofNat c0)), .val (.int (Int32.ofNat c1)), .val (.int (Int32.ofNat c2)), .val (.int (Int32.ofNat c3)), .val (.int (Int32.ofNat c4)), .val (.int (Int32.ofNat c5)), .val (.int (Int32.ofNat s0)), .val (.int (Int32.ofNat s0)), .val (.int (Int32.ofNat ((s0 + 1) % 4))), .val (.int (Int32.ofNat ((s0 + 2) % 4))), .val (.int (Int32.ofNat ((s0 + 3) % 4))), .unset, .unset, .unset] []))
  have s402 : ∀ tz, Steps p.tables e below (T385.setTop (mkF m 229 #[.val (.int p0), .val (.int p1), .val (.int p2), .val (.int p3), .val (.int p4), .val (.ref b1), .val (.ref b15), .val (.ref b34), .val (.ref b122), .val (.int (Int32.ofNat c0)), .val (.int (Int32.ofNat c1)), .val (.int (Int32.ofNat c2)), .val (.int (Int32.ofNat c3)), .val (.int (Int32.ofNat c4)), .val (.int (Int32.ofNat c5)), .val (.int (Int32.ofNat s0)), .val (.int (Int32.ofNat s0)), .val (.int (Int32.ofNat ((s0 + 1) % 4))), .val (.int (Int32.ofNat ((s0 + 2) % 4))), .val (.int (Int32.ofNat ((s0 + 3) % 4))), .val (.int (p4 &&& (3 : Int32))), .unset, .unset] [])) tz → Steps p.tables e below (T385.setTop (mkF m 223 #[.val (.int p0), .val (.int p1), .val (.int p2), .val (.int p3), .val (.int p4), .val (.ref b1), .val (.ref b15), .val (.ref b34), .val (.ref b122), .val (.int (Int32.ofNat c0)), .val (.int (Int32.ofNat c1)), .val (.int (Int32.ofNat c2)), .val (.int (Int32.ofNat c3)), .val (.int (Int32.ofNat c4)), .val (.int (Int32.ofNat c5)), .val (.int (Int32.ofNat s0)), .val (.int (Int32.ofNat s0)), .val (.int (Int32.ofNat ((s0 + 1) % 4))), .val (.int (Int32.ofNat ((s0 + 2) % 4))), .val (.int (Int32.ofNat ((s0 + 3) % 4))), .unset, .unset, .unset] [])) tz := by
    intro tz kz
    refine XS.iload X385.here hx rfl (hb hby at_223) rfl ?_
    refine XS.iconst X385.here hx rfl (hb hby at_225) ?_
    refine XS.iand X385.here hx rfl (hb hby at_226) rfl ?_
    refine XS.istore X385.here hx rfl (hb hby at_227) rfl (l' := #[.val (.int p0), .val (.int p1), .val (.int p2), .val (.int p3), .val (.int p4), .val (.ref b1), .val (.ref b15), .val (.ref b34), .val (.ref b122), .val (.int (Int32.ofNat c0)), .val (.int (Int32.ofNat c1)), .val (.int (Int32.ofNat c2)), .val (.int (Int32.ofNat c3)), .val (.int (Int32.ofNat c4)), .val (.int (Int32.ofNat c5)), .val (.int (Int32.ofNat s0)), .val (.int (Int32.ofNat s0)), .val (.int (Int32.ofNat ((s0 + 1) % 4))), .val (.int (Int32.ofNat ((s0 + 2) % 4))), .val (.int (Int32.ofNat ((s0 + 3) % 4))), .val (.int (p4 &&& (3 : Int32))), .unset, .unset]) rfl ?_
    exact kz
  refine OG.step s402 ?_
  rw [ex0]
  show OG _ _ _ _ _ _ _ (T385.setTop (mkF m 229 #[.val (.int p0), .val (.int p1), .val (.int p2), .val (.int p3), .val (.int p4), .val (.ref b1), .val (.ref b15), .val (.ref b34), .val (.ref b122), .val (.int (Int32.ofNat c0)), .val (.int (Int32.ofNat c1)), .val (.int (Int32.ofNat c2)), .val (.int (Int32.ofNat c3)), .val (.int (Int32.ofNat c4)), .val (.int (Int32.ofNat c5)), .val (.int (Int32.ofNat s0)), .val (.int (Int32.ofNat s0)), .val (.int (Int32.ofNat ((s0 + 1) % 4))), .val (.int (Int32.ofNat ((s0 + 2) % 4))), .val (.int (Int32.ofNat ((s0 + 3) % 4))), .val (.int (Int32.ofNat x0)), .unset, .unset] []))
  have s403 : ∀ tz, Steps p.tables e below (T385.setTop (mkF m 233 #[.val (.int p0), .val (.int p1), .val (.int p2), .val (.int p3), .val (.int p4), .val (.ref b1), .val (.ref b15), .val (.ref b34), .val (.ref b122), .val (.int (Int32.ofNat c0)), .val (.int (Int32.ofNat c1)), .val (.int (Int32.ofNat c2)), .val (.int (Int32.ofNat c3)), .val (.int (Int32.ofNat c4)), .val (.int (Int32.ofNat c5)), .val (.int (Int32.ofNat s0)), .val (.int (Int32.ofNat s0)), .val (.int (Int32.ofNat ((s0 + 1) % 4))), .val (.int (Int32.ofNat ((s0 + 2) % 4))), .val (.int (Int32.ofNat ((s0 + 3) % 4))), .val (.int (Int32.ofNat x0)), .unset, .unset] [(.int (Int32.ofNat x0)), (.ref b15)])) tz → Steps p.tables e below (T385.setTop (mkF m 229 #[.val (.int p0), .val (.int p1), .val (.int p2), .val (.int p3), .val (.int p4), .val (.ref b1), .val (.ref b15), .val (.ref b34), .val (.ref b122), .val (.int (Int32.ofNat c0)), .val (.int (Int32.ofNat c1)), .val (.int (Int32.ofNat c2)), .val (.int (Int32.ofNat c3)), .val (.int (Int32.ofNat c4)), .val (.int (Int32.ofNat c5)), .val (.int (Int32.ofNat s0)), .val (.int (Int32.ofNat s0)), .val (.int (Int32.ofNat ((s0 + 1) % 4))), .val (.int (Int32.ofNat ((s0 + 2) % 4))), .val (.int (Int32.ofNat ((s0 + 3) % 4))), .val (.int (Int32.ofNat x0)), .unset, .unset] [])) tz := by
    intro tz kz
    refine XS.aload X385.here hx rfl (hb hby at_229) rfl rfl ?_
    refine XS.iload X385.here hx rfl (hb hby at_231) rfl ?_
    exact kz
  refine OG.step s403 ?_
  obtain ⟨cq404, kq404, q404a, q404b, q404c⟩ := isOf hZ e385 f390
  obtain ⟨_, _, ⟨T404, L404, k404, n404⟩, -, X404, ⟨Lc404, hQ404, l404, y404, z404⟩, st404⟩ := X385.virtualBack hx (y := (⟨"com/example/tidegraph/tidegraph/amd64/LiveRanges", "find", "(I)I"⟩ : MethodName)) (z := (⟨"com/example/tidegraph/tidegraph/amd64/LiveRanges", "find", "(I)I"⟩ : MethodName)) hown (mvT hZ (hw _ (List.mem_of_getElem? (i := 80) rfl))) (mvT hZ (hw _ (List.mem_of_getElem? (i := 62) rfl))) (notFace_of_selects (args := #[]) (mvT hZ (hw _ (List.mem_of_getElem? (i := 64) rfl)))) (mvT hZ (hw _ (List.mem_of_getElem? (i := 64) rfl))) (mvT hZ (hw _ (List.mem_of_getElem? (i := 63) rfl))) (by decide) (backOf (W := 0) (rm8 l Z a0 hw [] b15 x0 ap_21 kp_21 (own_fc (own_fc (own_fc (own_fc Pa2_216 s0) ((s0 + 1) % 4)) ((s0 + 2) % 4)) ((s0 + 3) % 4)) h385 n0 (Nat.le_trans Z0 K385.1) f392 f400 ne21_b15_ap_21 ge21_ap_21 hx0 hch.2.2.2.2.1) hZ (hw _ (List.mem_of_getElem? (i := 65) rfl)) (hw _ (List.mem_of_getElem? (i := 41) rfl)) (by decide) (by decide)) q404a q404c (g := (mkF m 233 #[.val (.int p0), .val (.int p1), .val (.int p2), .val (.int p3), .val (.int p4), .val (.ref b1), .val (.ref b15), .val (.ref b34), .val (.ref b122), .val (.int (Int32.ofNat c0)), .val (.int (Int32.ofNat c1)), .val (.int (Int32.ofNat c2)), .val (.int (Int32.ofNat c3)), .val (.int (Int32.ofNat c4)), .val (.int (Int32.ofNat c5)), .val (.int (Int32.ofNat s0)), .val (.int (Int32.ofNat s0)), .val (.int (Int32.ofNat ((s0 + 1) % 4))), .val (.int (Int32.ofNat ((s0 + 2) % 4))), .val (.int (Int32.ofNat ((s0 + 3) % 4))), .val (.int (Int32.ofNat x0)), .unset, .unset] [(.int (Int32.ofNat x0)), (.ref b15)])) rfl (by rw [hml]; rfl) (Steps.refl _) (argsL := [(.int (Int32.ofNat x0))]) (rest := []) (lenOf pd__I_I rfl) rfl (by show 2 * 0 + _ ≤ _; exact Nat.le_of_eq rfl) (hb hby at_233) (fun _ _ => ⟨rfl, e385, (by decide : 14 + 0 ≤ _), (by decide : 45 + 0 ≤ _)⟩)
  dsimp only [Pt.U, Pt.locs, Pt.cells, Pt.slots] at X404 l404 y404 z404 st404 hQ404
  subst l404 y404 z404
  obtain ⟨rfl, N404q, Kc404, p404_0⟩ := hQ404
  have N404 := Fr.app N385 N404q
  refine OG.step (fun tz kz => st404.trans kz) ?_
  have f405 := f386.keep Kc404
  have f406 := f387.keep Kc404 (ninS ne21_b3_ap_21 nin0)
  have f407 := f388.keep Kc404 (ninS ne21_b1_ap_21 nin0)
  have f408 := f389.keep Kc404 (ninS ne21_gs_8_ap_21 nin0)
  have f409 := f390.keep Kc404
  have f410 := f391.keep Kc404 (ninS ne21_b15_ap_21 nin0)
  have f411 := f392.keep Kc404 (ninS ne21_b15_ap_21 nin0)
  have f412 := f393.keep Kc404 (ninS ne21_b15_ap_21 nin0)
  have f413 := f394.keep Kc404 (ninS ne21_b15_ap_21 nin0)
  have f414 := f395.keep Kc404 (ninS ne21_b15_ap_21 nin0)
  have f415 := f396.keep Kc404 (ninS (Ne.symm u21_4) nin0)
  have f416 := f397.keep Kc404 (ninS (Ne.symm u21_5) nin0)
  have f417 := f398.keep Kc404 (ninS (Ne.symm u21_6) nin0)
  have f418 := f399.keep Kc404 (ninS (Ne.symm ne34_ap_21) nin0)
  have f420 := V385.keep Kc404 (ninS (Ne.symm ne122_ap_21) nin0)
  have K404 := K385.trans Kc404 (allS (Or.inr sz21_ap_21) all0)
  obtain ⟨Lz421, X404, N404⟩ : ∃ Lz, Stand p l e room_1 s m #[(.int p0), (.int p1), (.int p2), (.int p3), (.int p4)] below meth c T404 Lz 14 45 ∧ Fr n0 Lz := ⟨_, X404, N404⟩
  show OG _ _ _ _ _ _ _ (T404.setTop (mkF m 236 #[.val (.int p0), .val (.int p1), .val (.int p2), .val (.int p3), .val (.int p4), .val (.ref b1), .val (.ref b15), .val (.ref b34), .val (.ref b122), .val (.int (Int32.ofNat c0)), .val (.int (Int32.ofNat c1)), .val (.int (Int32.ofNat c2)), .val (.int (Int32.ofNat c3)), .val (.int (Int32.ofNat c4)), .val (.int (Int32.ofNat c5)), .val (.int (Int32.ofNat s0)), .val (.int (Int32.ofNat s0)), .val (.int (Int32.ofNat ((s0 + 1) % 4))), .val (.int (Int32.ofNat ((s0 + 2) % 4))), .val (.int (Int32.ofNat ((s0 + 3) % 4))), .val (.int (Int32.ofNat x0)), .unset, .unset] [(.int (Int32.ofNat (own_rt (own_fc (own_fc (own_fc (own_fc Pa2_216 s0) ((s0 + 1) % 4)) ((s0 + 2) % 4)) ((s0 + 3) % 4)) 4 x0)))]))
  have s422 : ∀ tz, Steps p.tables e below (T404.setTop (mkF m 244 #[.val (.int p0), .val (.int p1), .val (.int p2), .val (.int p3), .val (.int p4), .val (.ref b1), .val (.ref b15), .val (.ref b34), .val (.ref b122), .val (.int (Int32.ofNat c0)), .val (.int (Int32.ofNat c1)), .val (.int (Int32.ofNat c2)), .val (.int (Int32.ofNat c3)), .val (.int (Int32.ofNat c4)), .val (.int (Int32.ofNat c5)), .val (.int (Int32.ofNat s0)), .val (.int (Int32.ofNat s0)), .val (.int (Int32.ofNat ((s0 + 1) % 4))), .val (.int (Int32.ofNat ((s0 + 2) % 4))), .val (.int (Int32.ofNat ((s0 + 3) % 4))), .val (.int (Int32.ofNat x0)), .val (.int (Int32.ofNat (own_rt (own_fc (own_fc (own_fc (own_fc Pa2_216 s0) ((s0 + 1) % 4)) ((s0 + 2) % 4)) ((s0 + 3) % 4)) 4 x0))), .unset] [(.int (Int32.ofNat x0)), (.ref b122), (.int (Int32.ofNat (own_rt (own_fc (own_fc (own_fc (own_fc Pa2_216 s0) ((s0 + 1) % 4)) ((s0 + 2) % 4)) ((s0 + 3) % 4)) 4 x0)))])) tz → Steps p.tables e below (T404.setTop (mkF m 236 #[.val (.int p0), .val (.int p1), .val (.int p2), .val (.int p3), .val (.int p4), .val (.ref b1), .val (.ref b15), .val (.ref b34), .val (.ref b122), .val (.int (Int32.ofNat c0)), .val (.int (Int32.ofNat c1)), .val (.int (Int32.ofNat c2)), .val (.int (Int32.ofNat c3)), .val (.int (Int32.ofNat c4)), .val (.int (Int32.ofNat c5)), .val (.int (Int32.ofNat s0)), .val (.int (Int32.ofNat s0)), .val (.int (Int32.ofNat ((s0 + 1) % 4))), .val (.int (Int32.ofNat ((s0 + 2) % 4))), .val (.int (Int32.ofNat ((s0 + 3) % 4))), .val (.int (Int32.ofNat x0)), .unset, .unset] [(.int (Int32.ofNat (own_rt (own_fc (own_fc (own_fc (own_fc Pa2_216 s0) ((s0 + 1) % 4)) ((s0 + 2) % 4)) ((s0 + 3) % 4)) 4 x0)))])) tz := by
    intro tz kz
    refine XS.istore X404.here hx rfl (hb hby at_236) rfl (l' := #[.val (.int p0), .val (.int p1), .val (.int p2), .val (.int p3), .val (.int p4), .val (.ref b1), .val (.ref b15), .val (.ref b34), .val (.ref b122), .val (.int (Int32.ofNat c0)), .val (.int (Int32.ofNat c1)), .val (.int (Int32.ofNat c2)), .val (.int (Int32.ofNat c3)), .val (.int (Int32.ofNat c4)), .val (.int (Int32.ofNat c5)), .val (.int (Int32.ofNat s0)), .val (.int (Int32.ofNat s0)), .val (.int (Int32.ofNat ((s0 + 1) % 4))), .val (.int (Int32.ofNat ((s0 + 2) % 4))), .val (.int (Int32.ofNat ((s0 + 3) % 4))), .val (.int (Int32.ofNat x0)), .val (.int (Int32.ofNat (own_rt (own_fc (own_fc (own_fc (own_fc Pa2_216 s0) ((s0 + 1) % 4)) ((s0 + 2) % 4)) ((s0 + 3) % 4)) 4 x0))), .unset]) rfl ?_
    refine XS.iload X404.here hx rfl (hb hby at_238) rfl ?_
    refine XS.aload X404.here hx rfl (hb hby at_240) rfl rfl ?_
    refine XS.iload X404.here hx rfl (hb hby at_242) rfl ?_
    exact kz
  refine OG.step s422 ?_
  have av423 := f420
  obtain ⟨cl423, Ar423, qa_423, Sa_423, Nn_423, Ha_423, Ga_423⟩ := av423
  have hin423 : ¬ ((Int32.ofNat x0) < 0 ∨ cl423.slots.size ≤ ((Int32.ofNat x0)).toNatClampNeg) := inb_of Sa_423 ⟨(own_x4 hx0).1, (own_x4 hx0).2.1⟩
  have hat423 : cl423.slots[((Int32.ofNat x0)).toNatClampNeg]? = some (.int (Int32.ofNat (own_g ((((([0, 0, 0, 0]).set s0 (own_rt Pa2_216 4 s0)).set ((s0 + 1) % 4) (own_rt (own_fc Pa2_216 s0) 4 ((s0 + 1) % 4))).set ((s0 + 2) % 4) (own_rt (own_fc (own_fc Pa2_216 s0) ((s0 + 1) % 4)) 4 ((s0 + 2) % 4))).set ((s0 + 3) % 4) (own_rt (own_fc (own_fc (own_fc Pa2_216 s0) ((s0 + 1) % 4)) ((s0 + 2) % 4)) 4 ((s0 + 3) % 4))) x0))) := Ha_423.at hin423 (own_get hch.2.2.2.2.2.2.1.1 hx0)
  refine OG.step (X404.iaload hx (j := (Int32.ofNat x0)) (v := (.int (Int32.ofNat (own_g ((((([0, 0, 0, 0]).set s0 (own_rt Pa2_216 4 s0)).set ((s0 + 1) % 4) (own_rt (own_fc Pa2_216 s0) 4 ((s0 + 1) % 4))).set ((s0 + 2) % 4) (own_rt (own_fc (own_fc Pa2_216 s0) ((s0 + 1) % 4)) 4 ((s0 + 2) % 4))).set ((s0 + 3) % 4) (own_rt (own_fc (own_fc (own_fc Pa2_216 s0) ((s0 + 1) % 4)) ((s0 + 2) % 4)) 4 ((s0 + 3) % 4))) x0)))) Ar423.1 (State.isArrayOf_alike hZ.alike Ar423.2.1) Ar423.2.2 hin423 hat423 (g := (mkF m 244 #[.val (.int p0), .val (.int p1), .val (.int p2), .val (.int p3), .val (.int p4), .val (.ref b1), .val (.ref b15), .val (.ref b34), .val (.ref b122), .val (.int (Int32.ofNat c0)), .val (.int (Int32.ofNat c1)), .val (.int (Int32.ofNat c2)), .val (.int (Int32.ofNat c3)), .val (.int (Int32.ofNat c4)), .val (.int (Int32.ofNat c5)), .val (.int (Int32.ofNat s0)), .val (.int (Int32.ofNat s0)), .val (.int (Int32.ofNat ((s0 + 1) % 4))), .val (.int (Int32.ofNat ((s0 + 2) % 4))), .val (.int (Int32.ofNat ((s0 + 3) % 4))), .val (.int (Int32.ofNat x0)), .val (.int (Int32.ofNat (own_rt (own_fc (own_fc (own_fc (own_fc Pa2_216 s0) ((s0 + 1) % 4)) ((s0 + 2) % 4)) ((s0 + 3) % 4)) 4 x0))), .unset] [(.int (Int32.ofNat x0)), (.ref b122), (.int (Int32.ofNat (own_rt (own_fc (own_fc (own_fc (own_fc Pa2_216 s0) ((s0 + 1) % 4)) ((s0 + 2) % 4)) ((s0 + 3) % 4)) 4 x0)))])) rfl rfl (hb hby at_244)) ?_
  show OG _ _ _ _ _ _ _ (T404.setTop (mkF m 245 #[.val (.int p0), .val (.int p1), .val (.int p2), .val (.int p3), .val (.int p4), .val (.ref b1), .val (.ref b15), .val (.ref b34), .val (.ref b122), .val (.int (Int32.ofNat c0)), .val (.int (Int32.ofNat c1)), .val (.int (Int32.ofNat c2)), .val (.int (Int32.ofNat c3)), .val (.int (Int32.ofNat c4)), .val (.int (Int32.ofNat c5)), .val (.int (Int32.ofNat s0)), .val (.int (Int32.ofNat s0)), .val (.int (Int32.ofNat ((s0 + 1) % 4))), .val (.int (Int32.ofNat ((s0 + 2) % 4))), .val (.int (Int32.ofNat ((s0 + 3) % 4))), .val (.int (Int32.ofNat x0)), .val (.int (Int32.ofNat (own_rt (own_fc (own_fc (own_fc (own_fc Pa2_216 s0) ((s0 + 1) % 4)) ((s0 + 2) % 4)) ((s0 + 3) % 4)) 4 x0))), .unset] [(.int (Int32.ofNat (own_g ((((([0, 0, 0, 0]).set s0 (own_rt Pa2_216 4 s0)).set ((s0 + 1) % 4) (own_rt (own_fc Pa2_216 s0) 4 ((s0 + 1) % 4))).set ((s0 + 2) % 4) (own_rt (own_fc (own_fc Pa2_216 s0) ((s0 + 1) % 4)) 4 ((s0 + 2) % 4))).set ((s0 + 3) % 4) (own_rt (own_fc (own_fc (own_fc Pa2_216 s0) ((s0 + 1) % 4)) ((s0 + 2) % 4)) 4 ((s0 + 3) % 4))) x0))), (.int (Int32.ofNat (own_rt (own_fc (own_fc (own_fc (own_fc Pa2_216 s0) ((s0 + 1) % 4)) ((s0 + 2) % 4)) ((s0 + 3) % 4)) 4 x0)))]))
  have s424 : ∀ tz, Steps p.tables e below (T404.setTop (mkF m 265 #[.val (.int p0), .val (.int p1), .val (.int p2), .val (.int p3), .val (.int p4), .val (.ref b1), .val (.ref b15), .val (.ref b34), .val (.ref b122), .val (.int (Int32.ofNat c0)), .val (.int (Int32.ofNat c1)), .val (.int (Int32.ofNat c2)), .val (.int (Int32.ofNat c3)), .val (.int (Int32.ofNat c4)), .val (.int (Int32.ofNat c5)), .val (.int (Int32.ofNat s0)), .val (.int (Int32.ofNat s0)), .val (.int (Int32.ofNat ((s0 + 1) % 4))), .val (.int (Int32.ofNat ((s0 + 2) % 4))), .val (.int (Int32.ofNat ((s0 + 3) % 4))), .val (.int (Int32.ofNat x0)), .val (.int (Int32.ofNat (own_rt (own_fc (own_fc (own_fc (own_fc Pa2_216 s0) ((s0 + 1) % 4)) ((s0 + 2) % 4)) ((s0 + 3) % 4)) 4 x0))), .val (.int (1 : Int32))] [(.int (0 : Int32)), (.ref b122), (.ref b34)])) tz → Steps p.tables e below (T404.setTop (mkF m 245 #[.val (.int p0), .val (.int p1), .val (.int p2), .val (.int p3), .val (.int p4), .val (.ref b1), .val (.ref b15), .val (.ref b34), .val (.ref b122), .val (.int (Int32.ofNat c0)), .val (.int (Int32.ofNat c1)), .val (.int (Int32.ofNat c2)), .val (.int (Int32.ofNat c3)), .val (.int (Int32.ofNat c4)), .val (.int (Int32.ofNat c5)), .val (.int (Int32.ofNat s0)), .val (.int (Int32.ofNat s0)), .val (.int (Int32.ofNat ((s0 + 1) % 4))), .val (.int (Int32.ofNat ((s0 + 2) % 4))), .val (.int (Int32.ofNat ((s0 + 3) % 4))), .val (.int (Int32.ofNat x0)), .val (.int (Int32.ofNat (own_rt (own_fc (own_fc (own_fc (own_fc Pa2_216 s0) ((s0 + 1) % 4)) ((s0 + 2) % 4)) ((s0 + 3) % 4)) 4 x0))), .unset] [(.int (Int32.ofNat (own_g ((((([0, 0, 0, 0]).set s0 (own_rt Pa2_216 4 s0)).set ((s0 + 1) % 4) (own_rt (own_fc Pa2_216 s0) 4 ((s0 + 1) % 4))).set ((s0 + 2) % 4) (own_rt (own_fc (own_fc Pa2_216 s0) ((s0 + 1) % 4)) 4 ((s0 + 2) % 4))).set ((s0 + 3) % 4) (own_rt (own_fc (own_fc (own_fc Pa2_216 s0) ((s0 + 1) % 4)) ((s0 + 2) % 4)) 4 ((s0 + 3) % 4))) x0))), (.int (Int32.ofNat (own_rt (own_fc (own_fc (own_fc (own_fc Pa2_216 s0) ((s0 + 1) % 4)) ((s0 + 2) % 4)) ((s0 + 3) % 4)) 4 x0)))])) tz := by
    intro tz kz
    refine XS.icmpNo X404.here hx rfl (hb hby at_245) rfl (teq (congrArg Int32.ofNat hch.2.2.2.2.2.2.2.1)).2 ?_
    refine XS.iconst X404.here hx rfl (hb hby at_248) ?_
    refine XS.goto X404.here hx rfl (pc0 := 249) (pc' := 253) rfl (hb hby at_249) (by decide) (by decide) ?_
    refine XS.istore X404.here hx rfl (hb hby at_253) rfl (l' := #[.val (.int p0), .val (.int p1), .val (.int p2), .val (.int p3), .val (.int p4), .val (.ref b1), .val (.ref b15), .val (.ref b34), .val (.ref b122), .val (.int (Int32.ofNat c0)), .val (.int (Int32.ofNat c1)), .val (.int (Int32.ofNat c2)), .val (.int (Int32.ofNat c3)), .val (.int (Int32.ofNat c4)), .val (.int (Int32.ofNat c5)), .val (.int (Int32.ofNat s0)), .val (.int (Int32.ofNat s0)), .val (.int (Int32.ofNat ((s0 + 1) % 4))), .val (.int (Int32.ofNat ((s0 + 2) % 4))), .val (.int (Int32.ofNat ((s0 + 3) % 4))), .val (.int (Int32.ofNat x0)), .val (.int (Int32.ofNat (own_rt (own_fc (own_fc (own_fc (own_fc Pa2_216 s0) ((s0 + 1) % 4)) ((s0 + 2) % 4)) ((s0 + 3) % 4)) 4 x0))), .val (.int (1 : Int32))]) rfl ?_
    refine XS.iload X404.here hx rfl (hb hby at_255) rfl ?_
    show Steps p.tables e below (T404.setTop (mkF m 257 #[.val (.int p0), .val (.int p1), .val (.int p2), .val (.int p3), .val (.int p4), .val (.ref b1), .val (.ref b15), .val (.ref b34), .val (.ref b122), .val (.int (Int32.ofNat c0)), .val (.int (Int32.ofNat c1)), .val (.int (Int32.ofNat c2)), .val (.int (Int32.ofNat c3)), .val (.int (Int32.ofNat c4)), .val (.int (Int32.ofNat c5)), .val (.int (Int32.ofNat s0)), .val (.int (Int32.ofNat s0)), .val (.int (Int32.ofNat ((s0 + 1) % 4))), .val (.int (Int32.ofNat ((s0 + 2) % 4))), .val (.int (Int32.ofNat ((s0 + 3) % 4))), .val (.int (Int32.ofNat x0)), .val (.int (Int32.ofNat (own_rt (own_fc (own_fc (own_fc (own_fc Pa2_216 s0) ((s0 + 1) % 4)) ((s0 + 2) % 4)) ((s0 + 3) % 4)) 4 x0))), .val (.int (1 : Int32))] [(.int (1 : Int32))])) _
    refine XS.ifNo X404.here hx rfl (hb hby at_257) rfl ((if0 _ _).trans (feq (by decide)).1) ?_
    refine XS.aload X404.here hx rfl (hb hby at_260) rfl rfl ?_
    refine XS.aload X404.here hx rfl (hb hby at_262) rfl rfl ?_
    refine XS.iconst X404.here hx rfl (hb hby at_264) ?_
    exact kz
  refine OG.step s424 ?_
  obtain ⟨_, _, ⟨T425, L425, k425, n425⟩, -, X425, ⟨Lc425, hQ425, l425, y425, z425⟩, st425⟩ := Jvm.LawKit.callS X404 hx (y := (⟨"com/example/tidegraph/tidegraph/amd64/LiveRangesFindPinLaw", "member", "([I[II)Z"⟩ : MethodName)) hown (mvT hZ (hw _ (List.mem_of_getElem? (i := 81) rfl))) (mvT hZ (hw _ (List.mem_of_getElem? (i := 82) rfl))) (mvT hZ (hw _ (List.mem_of_getElem? (i := 68) rfl))) (mvT hZ (hw _ (List.mem_of_getElem? (i := 83) rfl))) (by decide) (backOf (W := 0) (rm12 l Z a0 hw [] b34 b122 0 k34 k122 (own_rl (own_rl (own_rl [0, 1, 2, 3] c0 c1) c2 c3) c4 c5) ((((([0, 0, 0, 0]).set s0 (own_rt Pa2_216 4 s0)).set ((s0 + 1) % 4) (own_rt (own_fc Pa2_216 s0) 4 ((s0 + 1) % 4))).set ((s0 + 2) % 4) (own_rt (own_fc (own_fc Pa2_216 s0) ((s0 + 1) % 4)) 4 ((s0 + 2) % 4))).set ((s0 + 3) % 4) (own_rt (own_fc (own_fc (own_fc Pa2_216 s0) ((s0 + 1) % 4)) ((s0 + 2) % 4)) 4 ((s0 + 3) % 4))) T404.heap n0 (Nat.le_trans Z0 K404.1) f418 f420 hch.2.2.2.2.2.1 hch.2.2.2.2.2.2.1 (by decide)) hZ (hw _ (List.mem_of_getElem? (i := 83) rfl)) (hw _ (List.mem_of_getElem? (i := 68) rfl)) (by decide) (by decide)) (g := (mkF m 265 #[.val (.int p0), .val (.int p1), .val (.int p2), .val (.int p3), .val (.int p4), .val (.ref b1), .val (.ref b15), .val (.ref b34), .val (.ref b122), .val (.int (Int32.ofNat c0)), .val (.int (Int32.ofNat c1)), .val (.int (Int32.ofNat c2)), .val (.int (Int32.ofNat c3)), .val (.int (Int32.ofNat c4)), .val (.int (Int32.ofNat c5)), .val (.int (Int32.ofNat s0)), .val (.int (Int32.ofNat s0)), .val (.int (Int32.ofNat ((s0 + 1) % 4))), .val (.int (Int32.ofNat ((s0 + 2) % 4))), .val (.int (Int32.ofNat ((s0 + 3) % 4))), .val (.int (Int32.ofNat x0)), .val (.int (Int32.ofNat (own_rt (own_fc (own_fc (own_fc (own_fc Pa2_216 s0) ((s0 + 1) % 4)) ((s0 + 2) % 4)) ((s0 + 3) % 4)) 4 x0))), .val (.int (1 : Int32))] [(.int (0 : Int32)), (.ref b122), (.ref b34)])) rfl (by rw [hml]; rfl) (argsL := [(.ref b34), (.ref b122), (.int (0 : Int32))]) (rest := []) (lenOf pd___I_II_Z rfl) rfl (by show 2 * 0 + _ ≤ _; exact Nat.le_of_eq rfl) (hb hby at_265) (fun _ _ => ⟨rfl, rfl, (by decide : 14 + 0 ≤ _), (by decide : 45 + 0 ≤ _)⟩)
  dsimp only [Pt.U, Pt.locs, Pt.cells, Pt.slots] at X425 l425 y425 z425 st425 hQ425
  subst l425 y425 z425
  obtain ⟨rfl, N425q, e425⟩ := hQ425
  have N425 := Fr.app N404 N425q
  refine OG.step st425 ?_
  obtain ⟨Lz426, X425, N425⟩ : ∃ Lz, Stand p l e room_1 s m #[(.int p0), (.int p1), (.int p2), (.int p3), (.int p4)] below meth c T425 Lz 14 45 ∧ Fr n0 Lz := ⟨_, X425, N425⟩
  show OG _ _ _ _ _ _ _ (T425.setTop (mkF m 268 #[.val (.int p0), .val (.int p1), .val (.int p2), .val (.int p3), .val (.int p4), .val (.ref b1), .val (.ref b15), .val (.ref b34), .val (.ref b122), .val (.int (Int32.ofNat c0)), .val (.int (Int32.ofNat c1)), .val (.int (Int32.ofNat c2)), .val (.int (Int32.ofNat c3)), .val (.int (Int32.ofNat c4)), .val (.int (Int32.ofNat c5)), .val (.int (Int32.ofNat s0)), .val (.int (Int32.ofNat s0)), .val (.int (Int32.ofNat ((s0 + 1) % 4))), .val (.int (Int32.ofNat ((s0 + 2) % 4))), .val (.int (Int32.ofNat ((s0 + 3) % 4))), .val (.int (Int32.ofNat x0)), .val (.int (Int32.ofNat (own_rt (own_fc (own_fc (own_fc (own_fc Pa2_216 s0) ((s0 + 1) % 4)) ((s0 + 2) % 4)) ((s0 + 3) % 4)) 4 x0))), .val (.int (1 : Int32))] [(.int (bI (own_g (own_rl (own_rl (own_rl [0, 1, 2, 3] c0 c1) c2 c3) c4 c5) (own_g ((((([0, 0, 0, 0]).set s0 (own_rt Pa2_216 4 s0)).set ((s0 + 1) % 4) (own_rt (own_fc Pa2_216 s0) 4 ((s0 + 1) % 4))).set ((s0 + 2) % 4) (own_rt (own_fc (own_fc Pa2_216 s0) ((s0 + 1) % 4)) 4 ((s0 + 2) % 4))).set ((s0 + 3) % 4) (own_rt (own_fc (own_fc (own_fc Pa2_216 s0) ((s0 + 1) % 4)) ((s0 + 2) % 4)) 4 ((s0 + 3) % 4))) 0) = own_g (own_rl (own_rl (own_rl [0, 1, 2, 3] c0 c1) c2 c3) c4 c5) 0)))]))
  have s427 : ∀ tz, Steps p.tables e below (T425.setTop (mkF m 288 #[.val (.int p0), .val (.int p1), .val (.int p2), .val (.int p3), .val (.int p4), .val (.ref b1), .val (.ref b15), .val (.ref b34), .val (.ref b122), .val (.int (Int32.ofNat c0)), .val (.int (Int32.ofNat c1)), .val (.int (Int32.ofNat c2)), .val (.int (Int32.ofNat c3)), .val (.int (Int32.ofNat c4)), .val (.int (Int32.ofNat c5)), .val (.int (Int32.ofNat s0)), .val (.int (Int32.ofNat s0)), .val (.int (Int32.ofNat ((s0 + 1) % 4))), .val (.int (Int32.ofNat ((s0 + 2) % 4))), .val (.int (Int32.ofNat ((s0 + 3) % 4))), .val (.int (Int32.ofNat x0)), .val (.int (Int32.ofNat (own_rt (own_fc (own_fc (own_fc (own_fc Pa2_216 s0) ((s0 + 1) % 4)) ((s0 + 2) % 4)) ((s0 + 3) % 4)) 4 x0))), .val (.int (1 : Int32))] [(.int (1 : Int32)), (.ref b122), (.ref b34)])) tz → Steps p.tables e below (T425.setTop (mkF m 268 #[.val (.int p0), .val (.int p1), .val (.int p2), .val (.int p3), .val (.int p4), .val (.ref b1), .val (.ref b15), .val (.ref b34), .val (.ref b122), .val (.int (Int32.ofNat c0)), .val (.int (Int32.ofNat c1)), .val (.int (Int32.ofNat c2)), .val (.int (Int32.ofNat c3)), .val (.int (Int32.ofNat c4)), .val (.int (Int32.ofNat c5)), .val (.int (Int32.ofNat s0)), .val (.int (Int32.ofNat s0)), .val (.int (Int32.ofNat ((s0 + 1) % 4))), .val (.int (Int32.ofNat ((s0 + 2) % 4))), .val (.int (Int32.ofNat ((s0 + 3) % 4))), .val (.int (Int32.ofNat x0)), .val (.int (Int32.ofNat (own_rt (own_fc (own_fc (own_fc (own_fc Pa2_216 s0) ((s0 + 1) % 4)) ((s0 + 2) % 4)) ((s0 + 3) % 4)) 4 x0))), .val (.int (1 : Int32))] [(.int (bI (own_g (own_rl (own_rl (own_rl [0, 1, 2, 3] c0 c1) c2 c3) c4 c5) (own_g ((((([0, 0, 0, 0]).set s0 (own_rt Pa2_216 4 s0)).set ((s0 + 1) % 4) (own_rt (own_fc Pa2_216 s0) 4 ((s0 + 1) % 4))).set ((s0 + 2) % 4) (own_rt (own_fc (own_fc Pa2_216 s0) ((s0 + 1) % 4)) 4 ((s0 + 2) % 4))).set ((s0 + 3) % 4) (own_rt (own_fc (own_fc (own_fc Pa2_216 s0) ((s0 + 1) % 4)) ((s0 + 2) % 4)) 4 ((s0 + 3) % 4))) 0) = own_g (own_rl (own_rl (own_rl [0, 1, 2, 3] c0 c1) c2 c3) c4 c5) 0)))])) tz := by
    intro tz kz
    refine XS.ifNo X425.here hx rfl (hb hby at_268) rfl ((if0 _ _).trans (feq (bI_ne0 (hch.2.2.2.2.2.2.2.2.1 0 (by decide)))).1) ?_
    refine XS.iconst X425.here hx rfl (hb hby at_271) ?_
    refine XS.goto X425.here hx rfl (pc0 := 272) (pc' := 276) rfl (hb hby at_272) (by decide) (by decide) ?_
    refine XS.istore X425.here hx rfl (hb hby at_276) rfl (l' := #[.val (.int p0), .val (.int p1), .val (.int p2), .val (.int p3), .val (.int p4), .val (.ref b1), .val (.ref b15), .val (.ref b34), .val (.ref b122), .val (.int (Int32.ofNat c0)), .val (.int (Int32.ofNat c1)), .val (.int (Int32.ofNat c2)), .val (.int (Int32.ofNat c3)), .val (.int (Int32.ofNat c4)), .val (.int (Int32.ofNat c5)), .val (.int (Int32.ofNat s0)), .val (.int (Int32.ofNat s0)), .val (.int (Int32.ofNat ((s0 + 1) % 4))), .val (.int (Int32.ofNat ((s0 + 2) % 4))), .val (.int (Int32.ofNat ((s0 + 3) % 4))), .val (.int (Int32.ofNat x0)), .val (.int (Int32.ofNat (own_rt (own_fc (own_fc (own_fc (own_fc Pa2_216 s0) ((s0 + 1) % 4)) ((s0 + 2) % 4)) ((s0 + 3) % 4)) 4 x0))), .val (.int (1 : Int32))]) rfl ?_
    refine XS.iload X425.here hx rfl (hb hby at_278) rfl ?_
    show Steps p.tables e below (T425.setTop (mkF m 280 #[.val (.int p0), .val (.int p1), .val (.int p2), .val (.int p3), .val (.int p4), .val (.ref b1), .val (.ref b15), .val (.ref b34), .val (.ref b122), .val (.int (Int32.ofNat c0)), .val (.int (Int32.ofNat c1)), .val (.int (Int32.ofNat c2)), .val (.int (Int32.ofNat c3)), .val (.int (Int32.ofNat c4)), .val (.int (Int32.ofNat c5)), .val (.int (Int32.ofNat s0)), .val (.int (Int32.ofNat s0)), .val (.int (Int32.ofNat ((s0 + 1) % 4))), .val (.int (Int32.ofNat ((s0 + 2) % 4))), .val (.int (Int32.ofNat ((s0 + 3) % 4))), .val (.int (Int32.ofNat x0)), .val (.int (Int32.ofNat (own_rt (own_fc (own_fc (own_fc (own_fc Pa2_216 s0) ((s0 + 1) % 4)) ((s0 + 2) % 4)) ((s0 + 3) % 4)) 4 x0))), .val (.int (1 : Int32))] [(.int (1 : Int32))])) _
    refine XS.ifNo X425.here hx rfl (hb hby at_280) rfl ((if0 _ _).trans (feq (by decide)).1) ?_
    refine XS.aload X425.here hx rfl (hb hby at_283) rfl rfl ?_
    refine XS.aload X425.here hx rfl (hb hby at_285) rfl rfl ?_
    refine XS.iconst X425.here hx rfl (hb hby at_287) ?_
    exact kz
  refine OG.step s427 ?_
  obtain ⟨_, _, ⟨T428, L428, k428, n428⟩, -, X428, ⟨Lc428, hQ428, l428, y428, z428⟩, st428⟩ := Jvm.LawKit.callS X425 hx (y := (⟨"com/example/tidegraph/tidegraph/amd64/LiveRangesFindPinLaw", "member", "([I[II)Z"⟩ : MethodName)) hown (mvT hZ (hw _ (List.mem_of_getElem? (i := 81) rfl))) (mvT hZ (hw _ (List.mem_of_getElem? (i := 82) rfl))) (mvT hZ (hw _ (List.mem_of_getElem? (i := 68) rfl))) (mvT hZ (hw _ (List.mem_of_getElem? (i := 83) rfl))) (by decide) (backOf (W := 0) (rm12 l Z a0 hw [] b34 b122 1 k34 k122 (own_rl (own_rl (own_rl [0, 1, 2, 3] c0 c1) c2 c3) c4 c5) ((((([0, 0, 0, 0]).set s0 (own_rt Pa2_216 4 s0)).set ((s0 + 1) % 4) (own_rt (own_fc Pa2_216 s0) 4 ((s0 + 1) % 4))).set ((s0 + 2) % 4) (own_rt (own_fc (own_fc Pa2_216 s0) ((s0 + 1) % 4)) 4 ((s0 + 2) % 4))).set ((s0 + 3) % 4) (own_rt (own_fc (own_fc (own_fc Pa2_216 s0) ((s0 + 1) % 4)) ((s0 + 2) % 4)) 4 ((s0 + 3) % 4))) T404.heap n0 (Nat.le_trans Z0 K404.1) f418 f420 hch.2.2.2.2.2.1 hch.2.2.2.2.2.2.1 (by decide)) hZ (hw _ (List.mem_of_getElem? (i := 83) rfl)) (hw _ (List.mem_of_getElem? (i := 68) rfl)) (by decide) (by decide)) (g := (mkF m 288 #[.val (.int p0), .val (.int p1), .val (.int p2), .val (.int p3), .val (.int p4), .val (.ref b1), .val (.ref b15), .val (.ref b34), .val (.ref b122), .val (.int (Int32.ofNat c0)), .val (.int (Int32.ofNat c1)), .val (.int (Int32.ofNat c2)), .val (.int (Int32.ofNat c3)), .val (.int (Int32.ofNat c4)), .val (.int (Int32.ofNat c5)), .val (.int (Int32.ofNat s0)), .val (.int (Int32.ofNat s0)), .val (.int (Int32.ofNat ((s0 + 1) % 4))), .val (.int (Int32.ofNat ((s0 + 2) % 4))), .val (.int (Int32.ofNat ((s0 + 3) % 4))), .val (.int (Int32.ofNat x0)), .val (.int (Int32.ofNat (own_rt (own_fc (own_fc (own_fc (own_fc Pa2_216 s0) ((s0 + 1) % 4)) ((s0 + 2) % 4)) ((s0 + 3) % 4)) 4 x0))), .val (.int (1 : Int32))] [(.int (1 : Int32)), (.ref b122), (.ref b34)])) rfl (by rw [hml]; rfl) (argsL := [(.ref b34), (.ref b122), (.int (1 : Int32))]) (rest := []) (lenOf pd___I_II_Z rfl) rfl (by show 2 * 0 + _ ≤ _; exact Nat.le_of_eq rfl) (hb hby at_288) (fun _ _ => ⟨rfl, e425, (by decide : 14 + 0 ≤ _), (by decide : 45 + 0 ≤ _)⟩)
  dsimp only [Pt.U, Pt.locs, Pt.cells, Pt.slots] at X428 l428 y428 z428 st428 hQ428
  subst l428 y428 z428
  obtain ⟨rfl, N428q, e428⟩ := hQ428
  have N428 := Fr.app N425 N428q
  refine OG.step st428 ?_
  obtain ⟨Lz429, X428, N428⟩ : ∃ Lz, Stand p l e room_1 s m #[(.int p0), (.int p1), (.int p2), (.int p3), (.int p4)] below meth c T428 Lz 14 45 ∧ Fr n0 Lz := ⟨_, X428, N428⟩
  show OG _ _ _ _ _ _ _ (T428.setTop (mkF m 291 #[.val (.int p0), .val (.int p1), .val (.int p2), .val (.int p3), .val (.int p4), .val (.ref b1), .val (.ref b15), .val (.ref b34), .val (.ref b122), .val (.int (Int32.ofNat c0)), .val (.int (Int32.ofNat c1)), .val (.int (Int32.ofNat c2)), .val (.int (Int32.ofNat c3)), .val (.int (Int32.ofNat c4)), .val (.int (Int32.ofNat c5)), .val (.int (Int32.ofNat s0)), .val (.int (Int32.ofNat s0)), .val (.int (Int32.ofNat ((s0 + 1) % 4))), .val (.int (Int32.ofNat ((s0 + 2) % 4))), .val (.int (Int32.ofNat ((s0 + 3) % 4))), .val (.int (Int32.ofNat x0)), .val (.int (Int32.ofNat (own_rt (own_fc (own_fc (own_fc (own_fc Pa2_216 s0) ((s0 + 1) % 4)) ((s0 + 2) % 4)) ((s0 + 3) % 4)) 4 x0))), .val (.int (1 : Int32))] [(.int (bI (own_g (own_rl (own_rl (own_rl [0, 1, 2, 3] c0 c1) c2 c3) c4 c5) (own_g ((((([0, 0, 0, 0]).set s0 (own_rt Pa2_216 4 s0)).set ((s0 + 1) % 4) (own_rt (own_fc Pa2_216 s0) 4 ((s0 + 1) % 4))).set ((s0 + 2) % 4) (own_rt (own_fc (own_fc Pa2_216 s0) ((s0 + 1) % 4)) 4 ((s0 + 2) % 4))).set ((s0 + 3) % 4) (own_rt (own_fc (own_fc (own_fc Pa2_216 s0) ((s0 + 1) % 4)) ((s0 + 2) % 4)) 4 ((s0 + 3) % 4))) 1) = own_g (own_rl (own_rl (own_rl [0, 1, 2, 3] c0 c1) c2 c3) c4 c5) 1)))]))
  have s430 : ∀ tz, Steps p.tables e below (T428.setTop (mkF m 311 #[.val (.int p0), .val (.int p1), .val (.int p2), .val (.int p3), .val (.int p4), .val (.ref b1), .val (.ref b15), .val (.ref b34), .val (.ref b122), .val (.int (Int32.ofNat c0)), .val (.int (Int32.ofNat c1)), .val (.int (Int32.ofNat c2)), .val (.int (Int32.ofNat c3)), .val (.int (Int32.ofNat c4)), .val (.int (Int32.ofNat c5)), .val (.int (Int32.ofNat s0)), .val (.int (Int32.ofNat s0)), .val (.int (Int32.ofNat ((s0 + 1) % 4))), .val (.int (Int32.ofNat ((s0 + 2) % 4))), .val (.int (Int32.ofNat ((s0 + 3) % 4))), .val (.int (Int32.ofNat x0)), .val (.int (Int32.ofNat (own_rt (own_fc (own_fc (own_fc (own_fc Pa2_216 s0) ((s0 + 1) % 4)) ((s0 + 2) % 4)) ((s0 + 3) % 4)) 4 x0))), .val (.int (1 : Int32))] [(.int (2 : Int32)), (.ref b122), (.ref b34)])) tz → Steps p.tables e below (T428.setTop (mkF m 291 #[.val (.int p0), .val (.int p1), .val (.int p2), .val (.int p3), .val (.int p4), .val (.ref b1), .val (.ref b15), .val (.ref b34), .val (.ref b122), .val (.int (Int32.ofNat c0)), .val (.int (Int32.ofNat c1)), .val (.int (Int32.ofNat c2)), .val (.int (Int32.ofNat c3)), .val (.int (Int32.ofNat c4)), .val (.int (Int32.ofNat c5)), .val (.int (Int32.ofNat s0)), .val (.int (Int32.ofNat s0)), .val (.int (Int32.ofNat ((s0 + 1) % 4))), .val (.int (Int32.ofNat ((s0 + 2) % 4))), .val (.int (Int32.ofNat ((s0 + 3) % 4))), .val (.int (Int32.ofNat x0)), .val (.int (Int32.ofNat (own_rt (own_fc (own_fc (own_fc (own_fc Pa2_216 s0) ((s0 + 1) % 4)) ((s0 + 2) % 4)) ((s0 + 3) % 4)) 4 x0))), .val (.int (1 : Int32))] [(.int (bI (own_g (own_rl (own_rl (own_rl [0, 1, 2, 3] c0 c1) c2 c3) c4 c5) (own_g ((((([0, 0, 0, 0]).set s0 (own_rt Pa2_216 4 s0)).set ((s0 + 1) % 4) (own_rt (own_fc Pa2_216 s0) 4 ((s0 + 1) % 4))).set ((s0 + 2) % 4) (own_rt (own_fc (own_fc Pa2_216 s0) ((s0 + 1) % 4)) 4 ((s0 + 2) % 4))).set ((s0 + 3) % 4) (own_rt (own_fc (own_fc (own_fc Pa2_216 s0) ((s0 + 1) % 4)) ((s0 + 2) % 4)) 4 ((s0 + 3) % 4))) 1) = own_g (own_rl (own_rl (own_rl [0, 1, 2, 3] c0 c1) c2 c3) c4 c5) 1)))])) tz := by
    intro tz kz
    refine XS.ifNo X428.here hx rfl (hb hby at_291) rfl ((if0 _ _).trans (feq (bI_ne0 (hch.2.2.2.2.2.2.2.2.1 1 (by decide)))).1) ?_
    refine XS.iconst X428.here hx rfl (hb hby at_294) ?_
    refine XS.goto X428.here hx rfl (pc0 := 295) (pc' := 299) rfl (hb hby at_295) (by decide) (by decide) ?_
    refine XS.istore X428.here hx rfl (hb hby at_299) rfl (l' := #[.val (.int p0), .val (.int p1), .val (.int p2), .val (.int p3), .val (.int p4), .val (.ref b1), .val (.ref b15), .val (.ref b34), .val (.ref b122), .val (.int (Int32.ofNat c0)), .val (.int (Int32.ofNat c1)), .val (.int (Int32.ofNat c2)), .val (.int (Int32.ofNat c3)), .val (.int (Int32.ofNat c4)), .val (.int (Int32.ofNat c5)), .val (.int (Int32.ofNat s0)), .val (.int (Int32.ofNat s0)), .val (.int (Int32.ofNat ((s0 + 1) % 4))), .val (.int (Int32.ofNat ((s0 + 2) % 4))), .val (.int (Int32.ofNat ((s0 + 3) % 4))), .val (.int (Int32.ofNat x0)), .val (.int (Int32.ofNat (own_rt (own_fc (own_fc (own_fc (own_fc Pa2_216 s0) ((s0 + 1) % 4)) ((s0 + 2) % 4)) ((s0 + 3) % 4)) 4 x0))), .val (.int (1 : Int32))]) rfl ?_
    refine XS.iload X428.here hx rfl (hb hby at_301) rfl ?_
    show Steps p.tables e below (T428.setTop (mkF m 303 #[.val (.int p0), .val (.int p1), .val (.int p2), .val (.int p3), .val (.int p4), .val (.ref b1), .val (.ref b15), .val (.ref b34), .val (.ref b122), .val (.int (Int32.ofNat c0)), .val (.int (Int32.ofNat c1)), .val (.int (Int32.ofNat c2)), .val (.int (Int32.ofNat c3)), .val (.int (Int32.ofNat c4)), .val (.int (Int32.ofNat c5)), .val (.int (Int32.ofNat s0)), .val (.int (Int32.ofNat s0)), .val (.int (Int32.ofNat ((s0 + 1) % 4))), .val (.int (Int32.ofNat ((s0 + 2) % 4))), .val (.int (Int32.ofNat ((s0 + 3) % 4))), .val (.int (Int32.ofNat x0)), .val (.int (Int32.ofNat (own_rt (own_fc (own_fc (own_fc (own_fc Pa2_216 s0) ((s0 + 1) % 4)) ((s0 + 2) % 4)) ((s0 + 3) % 4)) 4 x0))), .val (.int (1 : Int32))] [(.int (1 : Int32))])) _
    refine XS.ifNo X428.here hx rfl (hb hby at_303) rfl ((if0 _ _).trans (feq (by decide)).1) ?_
    refine XS.aload X428.here hx rfl (hb hby at_306) rfl rfl ?_
    refine XS.aload X428.here hx rfl (hb hby at_308) rfl rfl ?_
    refine XS.iconst X428.here hx rfl (hb hby at_310) ?_
    exact kz
  refine OG.step s430 ?_
  obtain ⟨_, _, ⟨T431, L431, k431, n431⟩, -, X431, ⟨Lc431, hQ431, l431, y431, z431⟩, st431⟩ := Jvm.LawKit.callS X428 hx (y := (⟨"com/example/tidegraph/tidegraph/amd64/LiveRangesFindPinLaw", "member", "([I[II)Z"⟩ : MethodName)) hown (mvT hZ (hw _ (List.mem_of_getElem? (i := 81) rfl))) (mvT hZ (hw _ (List.mem_of_getElem? (i := 82) rfl))) (mvT hZ (hw _ (List.mem_of_getElem? (i := 68) rfl))) (mvT hZ (hw _ (List.mem_of_getElem? (i := 83) rfl))) (by decide) (backOf (W := 0) (rm12 l Z a0 hw [] b34 b122 2 k34 k122 (own_rl (own_rl (own_rl [0, 1, 2, 3] c0 c1) c2 c3) c4 c5) ((((([0, 0, 0, 0]).set s0 (own_rt Pa2_216 4 s0)).set ((s0 + 1) % 4) (own_rt (own_fc Pa2_216 s0) 4 ((s0 + 1) % 4))).set ((s0 + 2) % 4) (own_rt (own_fc (own_fc Pa2_216 s0) ((s0 + 1) % 4)) 4 ((s0 + 2) % 4))).set ((s0 + 3) % 4) (own_rt (own_fc (own_fc (own_fc Pa2_216 s0) ((s0 + 1) % 4)) ((s0 + 2) % 4)) 4 ((s0 + 3) % 4))) T404.heap n0 (Nat.le_trans Z0 K404.1) f418 f420 hch.2.2.2.2.2.1 hch.2.2.2.2.2.2.1 (by decide)) hZ (hw _ (List.mem_of_getElem? (i := 83) rfl)) (hw _ (List.mem_of_getElem? (i := 68) rfl)) (by decide) (by decide)) (g := (mkF m 311 #[.val (.int p0), .val (.int p1), .val (.int p2), .val (.int p3), .val (.int p4), .val (.ref b1), .val (.ref b15), .val (.ref b34), .val (.ref b122), .val (.int (Int32.ofNat c0)), .val (.int (Int32.ofNat c1)), .val (.int (Int32.ofNat c2)), .val (.int (Int32.ofNat c3)), .val (.int (Int32.ofNat c4)), .val (.int (Int32.ofNat c5)), .val (.int (Int32.ofNat s0)), .val (.int (Int32.ofNat s0)), .val (.int (Int32.ofNat ((s0 + 1) % 4))), .val (.int (Int32.ofNat ((s0 + 2) % 4))), .val (.int (Int32.ofNat ((s0 + 3) % 4))), .val (.int (Int32.ofNat x0)), .val (.int (Int32.ofNat (own_rt (own_fc (own_fc (own_fc (own_fc Pa2_216 s0) ((s0 + 1) % 4)) ((s0 + 2) % 4)) ((s0 + 3) % 4)) 4 x0))), .val (.int (1 : Int32))] [(.int (2 : Int32)), (.ref b122), (.ref b34)])) rfl (by rw [hml]; rfl) (argsL := [(.ref b34), (.ref b122), (.int (2 : Int32))]) (rest := []) (lenOf pd___I_II_Z rfl) rfl (by show 2 * 0 + _ ≤ _; exact Nat.le_of_eq rfl) (hb hby at_311) (fun _ _ => ⟨rfl, e428, (by decide : 14 + 0 ≤ _), (by decide : 45 + 0 ≤ _)⟩)
  dsimp only [Pt.U, Pt.locs, Pt.cells, Pt.slots] at X431 l431 y431 z431 st431 hQ431
  subst l431 y431 z431
  obtain ⟨rfl, N431q, e431⟩ := hQ431
  have N431 := Fr.app N428 N431q
  refine OG.step st431 ?_
  obtain ⟨Lz432, X431, N431⟩ : ∃ Lz, Stand p l e room_1 s m #[(.int p0), (.int p1), (.int p2), (.int p3), (.int p4)] below meth c T431 Lz 14 45 ∧ Fr n0 Lz := ⟨_, X431, N431⟩
  show OG _ _ _ _ _ _ _ (T431.setTop (mkF m 314 #[.val (.int p0), .val (.int p1), .val (.int p2), .val (.int p3), .val (.int p4), .val (.ref b1), .val (.ref b15), .val (.ref b34), .val (.ref b122), .val (.int (Int32.ofNat c0)), .val (.int (Int32.ofNat c1)), .val (.int (Int32.ofNat c2)), .val (.int (Int32.ofNat c3)), .val (.int (Int32.ofNat c4)), .val (.int (Int32.ofNat c5)), .val (.int (Int32.ofNat s0)), .val (.int (Int32.ofNat s0)), .val (.int (Int32.ofNat ((s0 + 1) % 4))), .val (.int (Int32.ofNat ((s0 + 2) % 4))), .val (.int (Int32.ofNat ((s0 + 3) % 4))), .val (.int (Int32.ofNat x0)), .val (.int (Int32.ofNat (own_rt (own_fc (own_fc (own_fc (own_fc Pa2_216 s0) ((s0 + 1) % 4)) ((s0 + 2) % 4)) ((s0 + 3) % 4)) 4 x0))), .val (.int (1 : Int32))] [(.int (bI (own_g (own_rl (own_rl (own_rl [0, 1, 2, 3] c0 c1) c2 c3) c4 c5) (own_g ((((([0, 0, 0, 0]).set s0 (own_rt Pa2_216 4 s0)).set ((s0 + 1) % 4) (own_rt (own_fc Pa2_216 s0) 4 ((s0 + 1) % 4))).set ((s0 + 2) % 4) (own_rt (own_fc (own_fc Pa2_216 s0) ((s0 + 1) % 4)) 4 ((s0 + 2) % 4))).set ((s0 + 3) % 4) (own_rt (own_fc (own_fc (own_fc Pa2_216 s0) ((s0 + 1) % 4)) ((s0 + 2) % 4)) 4 ((s0 + 3) % 4))) 2) = own_g (own_rl (own_rl (own_rl [0, 1, 2, 3] c0 c1) c2 c3) c4 c5) 2)))]))
  have s433 : ∀ tz, Steps p.tables e below (T431.setTop (mkF m 334 #[.val (.int p0), .val (.int p1), .val (.int p2), .val (.int p3), .val (.int p4), .val (.ref b1), .val (.ref b15), .val (.ref b34), .val (.ref b122), .val (.int (Int32.ofNat c0)), .val (.int (Int32.ofNat c1)), .val (.int (Int32.ofNat c2)), .val (.int (Int32.ofNat c3)), .val (.int (Int32.ofNat c4)), .val (.int (Int32.ofNat c5)), .val (.int (Int32.ofNat s0)), .val (.int (Int32.ofNat s0)), .val (.int (Int32.ofNat ((s0 + 1) % 4))), .val (.int (Int32.ofNat ((s0 + 2) % 4))), .val (.int (Int32.ofNat ((s0 + 3) % 4))), .val (.int (Int32.ofNat x0)), .val (.int (Int32.ofNat (own_rt (own_fc (own_fc (own_fc (own_fc Pa2_216 s0) ((s0 + 1) % 4)) ((s0 + 2) % 4)) ((s0 + 3) % 4)) 4 x0))), .val (.int (1 : Int32))] [(.int (3 : Int32)), (.ref b122), (.ref b34)])) tz → Steps p.tables e below (T431.setTop (mkF m 314 #[.val (.int p0), .val (.int p1), .val (.int p2), .val (.int p3), .val (.int p4), .val (.ref b1), .val (.ref b15), .val (.ref b34), .val (.ref b122), .val (.int (Int32.ofNat c0)), .val (.int (Int32.ofNat c1)), .val (.int (Int32.ofNat c2)), .val (.int (Int32.ofNat c3)), .val (.int (Int32.ofNat c4)), .val (.int (Int32.ofNat c5)), .val (.int (Int32.ofNat s0)), .val (.int (Int32.ofNat s0)), .val (.int (Int32.ofNat ((s0 + 1) % 4))), .val (.int (Int32.ofNat ((s0 + 2) % 4))), .val (.int (Int32.ofNat ((s0 + 3) % 4))), .val (.int (Int32.ofNat x0)), .val (.int (Int32.ofNat (own_rt (own_fc (own_fc (own_fc (own_fc Pa2_216 s0) ((s0 + 1) % 4)) ((s0 + 2) % 4)) ((s0 + 3) % 4)) 4 x0))), .val (.int (1 : Int32))] [(.int (bI (own_g (own_rl (own_rl (own_rl [0, 1, 2, 3] c0 c1) c2 c3) c4 c5) (own_g ((((([0, 0, 0, 0]).set s0 (own_rt Pa2_216 4 s0)).set ((s0 + 1) % 4) (own_rt (own_fc Pa2_216 s0) 4 ((s0 + 1) % 4))).set ((s0 + 2) % 4) (own_rt (own_fc (own_fc Pa2_216 s0) ((s0 + 1) % 4)) 4 ((s0 + 2) % 4))).set ((s0 + 3) % 4) (own_rt (own_fc (own_fc (own_fc Pa2_216 s0) ((s0 + 1) % 4)) ((s0 + 2) % 4)) 4 ((s0 + 3) % 4))) 2) = own_g (own_rl (own_rl (own_rl [0, 1, 2, 3] c0 c1) c2 c3) c4 c5) 2)))])) tz := by
    intro tz kz
    refine XS.ifNo X431.here hx rfl (hb hby at_314) rfl ((if0 _ _).trans (feq (bI_ne0 (hch.2.2.2.2.2.2.2.2.1 2 (by decide)))).1) ?_
    refine XS.iconst X431.here hx rfl (hb hby at_317) ?_
    refine XS.goto X431.here hx rfl (pc0 := 318) (pc' := 322) rfl (hb hby at_318) (by decide) (by decide) ?_
    refine XS.istore X431.here hx rfl (hb hby at_322) rfl (l' := #[.val (.int p0), .val (.int p1), .val (.int p2), .val (.int p3), .val (.int p4), .val (.ref b1), .val (.ref b15), .val (.ref b34), .val (.ref b122), .val (.int (Int32.ofNat c0)), .val (.int (Int32.ofNat c1)), .val (.int (Int32.ofNat c2)), .val (.int (Int32.ofNat c3)), .val (.int (Int32.ofNat c4)), .val (.int (Int32.ofNat c5)), .val (.int (Int32.ofNat s0)), .val (.int (Int32.ofNat s0)), .val (.int (Int32.ofNat ((s0 + 1) % 4))), .val (.int (Int32.ofNat ((s0 + 2) % 4))), .val (.int (Int32.ofNat ((s0 + 3) % 4))), .val (.int (Int32.ofNat x0)), .val (.int (Int32.ofNat (own_rt (own_fc (own_fc (own_fc (own_fc Pa2_216 s0) ((s0 + 1) % 4)) ((s0 + 2) % 4)) ((s0 + 3) % 4)) 4 x0))), .val (.int (1 : Int32))]) rfl ?_
    refine XS.iload X431.here hx rfl (hb hby at_324) rfl ?_
    show Steps p.tables e below (T431.setTop (mkF m 326 #[.val (.int p0), .val (.int p1), .val (.int p2), .val (.int p3), .val (.int p4), .val (.ref b1), .val (.ref b15), .val (.ref b34), .val (.ref b122), .val (.int (Int32.ofNat c0)), .val (.int (Int32.ofNat c1)), .val (.int (Int32.ofNat c2)), .val (.int (Int32.ofNat c3)), .val (.int (Int32.ofNat c4)), .val (.int (Int32.ofNat c5)), .val (.int (Int32.ofNat s0)), .val (.int (Int32.ofNat s0)), .val (.int (Int32.ofNat ((s0 + 1) % 4))), .val (.int (Int32.ofNat ((s0 + 2) % 4))), .val (.int (Int32.ofNat ((s0 + 3) % 4))), .val (.int (Int32.ofNat x0)), .val (.int (Int32.ofNat (own_rt (own_fc (own_fc (own_fc (own_fc Pa2_216 s0) ((s0 + 1) % 4)) ((s0 + 2) % 4)) ((s0 + 3) % 4)) 4 x0))), .val (.int (1 : Int32))] [(.int (1 : Int32))])) _
    refine XS.ifNo X431.here hx rfl (hb hby at_326) rfl ((if0 _ _).trans (feq (by decide)).1) ?_
    refine XS.aload X431.here hx rfl (hb hby at_329) rfl rfl ?_
    refine XS.aload X431.here hx rfl (hb hby at_331) rfl rfl ?_
    refine XS.iconst X431.here hx rfl (hb hby at_333) ?_
    exact kz
  refine OG.step s433 ?_
  obtain ⟨_, _, ⟨T434, L434, k434, n434⟩, -, X434, ⟨Lc434, hQ434, l434, y434, z434⟩, st434⟩ := Jvm.LawKit.callS X431 hx (y := (⟨"com/example/tidegraph/tidegraph/amd64/LiveRangesFindPinLaw", "member", "([I[II)Z"⟩ : MethodName)) hown (mvT hZ (hw _ (List.mem_of_getElem? (i := 81) rfl))) (mvT hZ (hw _ (List.mem_of_getElem? (i := 82) rfl))) (mvT hZ (hw _ (List.mem_of_getElem? (i := 68) rfl))) (mvT hZ (hw _ (List.mem_of_getElem? (i := 83) rfl))) (by decide) (backOf (W := 0) (rm12 l Z a0 hw [] b34 b122 3 k34 k122 (own_rl (own_rl (own_rl [0, 1, 2, 3] c0 c1) c2 c3) c4 c5) ((((([0, 0, 0, 0]).set s0 (own_rt Pa2_216 4 s0)).set ((s0 + 1) % 4) (own_rt (own_fc Pa2_216 s0) 4 ((s0 + 1) % 4))).set ((s0 + 2) % 4) (own_rt (own_fc (own_fc Pa2_216 s0) ((s0 + 1) % 4)) 4 ((s0 + 2) % 4))).set ((s0 + 3) % 4) (own_rt (own_fc (own_fc (own_fc Pa2_216 s0) ((s0 + 1) % 4)) ((s0 + 2) % 4)) 4 ((s0 + 3) % 4))) T404.heap n0 (Nat.le_trans Z0 K404.1) f418 f420 hch.2.2.2.2.2.1 hch.2.2.2.2.2.2.1 (by decide)) hZ (hw _ (List.mem_of_getElem? (i := 83) rfl)) (hw _ (List.mem_of_getElem? (i := 68) rfl)) (by decide) (by decide)) (g := (mkF m 334 #[.val (.int p0), .val (.int p1), .val (.int p2), .val (.int p3), .val (.int p4), .val (.ref b1), .val (.ref b15), .val (.ref b34), .val (.ref b122), .val (.int (Int32.ofNat c0)), .val (.int (Int32.ofNat c1)), .val (.int (Int32.ofNat c2)), .val (.int (Int32.ofNat c3)), .val (.int (Int32.ofNat c4)), .val (.int (Int32.ofNat c5)), .val (.int (Int32.ofNat s0)), .val (.int (Int32.ofNat s0)), .val (.int (Int32.ofNat ((s0 + 1) % 4))), .val (.int (Int32.ofNat ((s0 + 2) % 4))), .val (.int (Int32.ofNat ((s0 + 3) % 4))), .val (.int (Int32.ofNat x0)), .val (.int (Int32.ofNat (own_rt (own_fc (own_fc (own_fc (own_fc Pa2_216 s0) ((s0 + 1) % 4)) ((s0 + 2) % 4)) ((s0 + 3) % 4)) 4 x0))), .val (.int (1 : Int32))] [(.int (3 : Int32)), (.ref b122), (.ref b34)])) rfl (by rw [hml]; rfl) (argsL := [(.ref b34), (.ref b122), (.int (3 : Int32))]) (rest := []) (lenOf pd___I_II_Z rfl) rfl (by show 2 * 0 + _ ≤ _; exact Nat.le_of_eq rfl) (hb hby at_334) (fun _ _ => ⟨rfl, e431, (by decide : 14 + 0 ≤ _), (by decide : 45 + 0 ≤ _)⟩)
  dsimp only [Pt.U, Pt.locs, Pt.cells, Pt.slots] at X434 l434 y434 z434 st434 hQ434
  subst l434 y434 z434
  obtain ⟨rfl, N434q, e434⟩ := hQ434
  have N434 := Fr.app N431 N434q
  refine OG.step st434 ?_
  obtain ⟨Lz435, X434, N434⟩ : ∃ Lz, Stand p l e room_1 s m #[(.int p0), (.int p1), (.int p2), (.int p3), (.int p4)] below meth c T434 Lz 14 45 ∧ Fr n0 Lz := ⟨_, X434, N434⟩
  show OG _ _ _ _ _ _ _ (T434.setTop (mkF m 337 #[.val (.int p0), .val (.int p1), .val (.int p2), .val (.int p3), .val (.int p4), .val (.ref b1), .val (.ref b15), .val (.ref b34), .val (.ref b122), .val (.int (Int32.ofNat c0)), .val (.int (Int32.ofNat c1)), .val (.int (Int32.ofNat c2)), .val (.int (Int32.ofNat c3)), .val (.int (Int32.ofNat c4)), .val (.int (Int32.ofNat c5)), .val (.int (Int32.ofNat s0)), .val (.int (Int32.ofNat s0)), .val (.int (Int32.ofNat ((s0 + 1) % 4))), .val (.int (Int32.ofNat ((s0 + 2) % 4))), .val (.int (Int32.ofNat ((s0 + 3) % 4))), .val (.int (Int32.ofNat x0)), .val (.int (Int32.ofNat (own_rt (own_fc (own_fc (own_fc (own_fc Pa2_216 s0) ((s0 + 1) % 4)) ((s0 + 2) % 4)) ((s0 + 3) % 4)) 4 x0))), .val (.int (1 : Int32))] [(.int (bI (own_g (own_rl (own_rl (own_rl [0, 1, 2, 3] c0 c1) c2 c3) c4 c5) (own_g ((((([0, 0, 0, 0]).set s0 (own_rt Pa2_216 4 s0)).set ((s0 + 1) % 4) (own_rt (own_fc Pa2_216 s0) 4 ((s0 + 1) % 4))).set ((s0 + 2) % 4) (own_rt (own_fc (own_fc Pa2_216 s0) ((s0 + 1) % 4)) 4 ((s0 + 2) % 4))).set ((s0 + 3) % 4) (own_rt (own_fc (own_fc (own_fc Pa2_216 s0) ((s0 + 1) % 4)) ((s0 + 2) % 4)) 4 ((s0 + 3) % 4))) 3) = own_g (own_rl (own_rl (own_rl [0, 1, 2, 3] c0 c1) c2 c3) c4 c5) 3)))]))
  have s436 : ∀ tz, Steps p.tables e below (T434.setTop (mkF m 358 #[.val (.int p0), .val (.int p1), .val (.int p2), .val (.int p3), .val (.int p4), .val (.ref b1), .val (.ref b15), .val (.ref b34), .val (.ref b122), .val (.int (Int32.ofNat c0)), .val (.int (Int32.ofNat c1)), .val (.int (Int32.ofNat c2)), .val (.int (Int32.ofNat c3)), .val (.int (Int32.ofNat c4)), .val (.int (Int32.ofNat c5)), .val (.int (Int32.ofNat s0)), .val (.int (Int32.ofNat s0)), .val (.int (Int32.ofNat ((s0 + 1) % 4))), .val (.int (Int32.ofNat ((s0 + 2) % 4))), .val (.int (Int32.ofNat ((s0 + 3) % 4))), .val (.int (Int32.ofNat x0)), .val (.int (Int32.ofNat (own_rt (own_fc (own_fc (own_fc (own_fc Pa2_216 s0) ((s0 + 1) % 4)) ((s0 + 2) % 4)) ((s0 + 3) % 4)) 4 x0))), .val (.int (1 : Int32))] [(.int (1 : Int32)), (.int (0 : Int32)), (.ref b122), (.ref b34)])) tz → Steps p.tables e below (T434.setTop (mkF m 337 #[.val (.int p0), .val (.int p1), .val (.int p2), .val (.int p3), .val (.int p4), .val (.ref b1), .val (.ref b15), .val (.ref b34), .val (.ref b122), .val (.int (Int32.ofNat c0)), .val (.int (Int32.ofNat c1)), .val (.int (Int32.ofNat c2)), .val (.int (Int32.ofNat c3)), .val (.int (Int32.ofNat c4)), .val (.int (Int32.ofNat c5)), .val (.int (Int32.ofNat s0)), .val (.int (Int32.ofNat s0)), .val (.int (Int32.ofNat ((s0 + 1) % 4))), .val (.int (Int32.ofNat ((s0 + 2) % 4))), .val (.int (Int32.ofNat ((s0 + 3) % 4))), .val (.int (Int32.ofNat x0)), .val (.int (Int32.ofNat (own_rt (own_fc (own_fc (own_fc (own_fc Pa2_216 s0) ((s0 + 1) % 4)) ((s0 + 2) % 4)) ((s0 + 3) % 4)) 4 x0))), .val (.int (1 : Int32))] [(.int (bI (own_g (own_rl (own_rl (own_rl [0, 1, 2, 3] c0 c1) c2 c3) c4 c5) (own_g ((((([0, 0, 0, 0]).set s0 (own_rt Pa2_216 4 s0)).set ((s0 + 1) % 4) (own_rt (own_fc Pa2_216 s0) 4 ((s0 + 1) % 4))).set ((s0 + 2) % 4) (own_rt (own_fc (own_fc Pa2_216 s0) ((s0 + 1) % 4)) 4 ((s0 + 2) % 4))).set ((s0 + 3) % 4) (own_rt (own_fc (own_fc (own_fc Pa2_216 s0) ((s0 + 1) % 4)) ((s0 + 2) % 4)) 4 ((s0 + 3) % 4))) 3) = own_g (own_rl (own_rl (own_rl [0, 1, 2, 3] c0 c1) c2 c3) c4 c5) 3)))])) tz := by
    intro tz kz
    refine XS.ifNo X434.here hx rfl (hb hby at_337) rfl ((if0 _ _).trans (feq (bI_ne0 (hch.2.2.2.2.2.2.2.2.1 3 (by decide)))).1) ?_
    refine XS.iconst X434.here hx rfl (hb hby at_340) ?_
    refine XS.goto X434.here hx rfl (pc0 := 341) (pc' := 345) rfl (hb hby at_341) (by decide) (by decide) ?_
    refine XS.istore X434.here hx rfl (hb hby at_345) rfl (l' := #[.val (.int p0), .val (.int p1), .val (.int p2), .val (.int p3), .val (.int p4), .val (.ref b1), .val (.ref b15), .val (.ref b34), .val (.ref b122), .val (.int (Int32.ofNat c0)), .val (.int (Int32.ofNat c1)), .val (.int (Int32.ofNat c2)), .val (.int (Int32.ofNat c3)), .val (.int (Int32.ofNat c4)), .val (.int (Int32.ofNat c5)), .val (.int (Int32.ofNat s0)), .val (.int (Int32.ofNat s0)), .val (.int (Int32.ofNat ((s0 + 1) % 4))), .val (.int (Int32.ofNat ((s0 + 2) % 4))), .val (.int (Int32.ofNat ((s0 + 3) % 4))), .val (.int (Int32.ofNat x0)), .val (.int (Int32.ofNat (own_rt (own_fc (own_fc (own_fc (own_fc Pa2_216 s0) ((s0 + 1) % 4)) ((s0 + 2) % 4)) ((s0 + 3) % 4)) 4 x0))), .val (.int (1 : Int32))]) rfl ?_
    refine XS.iload X434.here hx rfl (hb hby at_347) rfl ?_
    show Steps p.tables e below (T434.setTop (mkF m 349 #[.val (.int p0), .val (.int p1), .val (.int p2), .val (.int p3), .val (.int p4), .val (.ref b1), .val (.ref b15), .val (.ref b34), .val (.ref b122), .val (.int (Int32.ofNat c0)), .val (.int (Int32.ofNat c1)), .val (.int (Int32.ofNat c2)), .val (.int (Int32.ofNat c3)), .val (.int (Int32.ofNat c4)), .val (.int (Int32.ofNat c5)), .val (.int (Int32.ofNat s0)), .val (.int (Int32.ofNat s0)), .val (.int (Int32.ofNat ((s0 + 1) % 4))), .val (.int (Int32.ofNat ((s0 + 2) % 4))), .val (.int (Int32.ofNat ((s0 + 3) % 4))), .val (.int (Int32.ofNat x0)), .val (.int (Int32.ofNat (own_rt (own_fc (own_fc (own_fc (own_fc Pa2_216 s0) ((s0 + 1) % 4)) ((s0 + 2) % 4)) ((s0 + 3) % 4)) 4 x0))), .val (.int (1 : Int32))] [(.int (1 : Int32))])) _
    refine XS.ifNo X434.here hx rfl (hb hby at_349) rfl ((if0 _ _).trans (feq (by decide)).1) ?_
    refine XS.aload X434.here hx rfl (hb hby at_352) rfl rfl ?_
    refine XS.aload X434.here hx rfl (hb hby at_354) rfl rfl ?_
    refine XS.iconst X434.here hx rfl (hb hby at_356) ?_
    refine XS.iconst X434.here hx rfl (hb hby at_357) ?_
    exact kz
  refine OG.step s436 ?_
  obtain ⟨_, _, ⟨T437, L437, k437, n437⟩, -, X437, ⟨Lc437, hQ437, l437, y437, z437⟩, st437⟩ := Jvm.LawKit.callS X434 hx (y := (⟨"com/example/tidegraph/tidegraph/amd64/LiveRangesFindPinLaw", "same", "([I[III)Z"⟩ : MethodName)) hown (mvT hZ (hw _ (List.mem_of_getElem? (i := 84) rfl))) (mvT hZ (hw _ (List.mem_of_getElem? (i := 85) rfl))) (mvT hZ (hw _ (List.mem_of_getElem? (i := 68) rfl))) (mvT hZ (hw _ (List.mem_of_getElem? (i := 86) rfl))) (by decide) (backOf (W := 0) (rm13 l Z a0 hw [] b34 b122 0 1 k34 k122 (own_rl (own_rl (own_rl [0, 1, 2, 3] c0 c1) c2 c3) c4 c5) ((((([0, 0, 0, 0]).set s0 (own_rt Pa2_216 4 s0)).set ((s0 + 1) % 4) (own_rt (own_fc Pa2_216 s0) 4 ((s0 + 1) % 4))).set ((s0 + 2) % 4) (own_rt (own_fc (own_fc Pa2_216 s0) ((s0 + 1) % 4)) 4 ((s0 + 2) % 4))).set ((s0 + 3) % 4) (own_rt (own_fc (own_fc (own_fc Pa2_216 s0) ((s0 + 1) % 4)) ((s0 + 2) % 4)) 4 ((s0 + 3) % 4))) T404.heap n0 (Nat.le_trans Z0 K404.1) f418 f420 hch.2.2.2.2.2.1 hch.2.2.2.2.2.2.1 (by decide) (by decide)) hZ (hw _ (List.mem_of_getElem? (i := 86) rfl)) (hw _ (List.mem_of_getElem? (i := 68) rfl)) (by decide) (by decide)) (g := (mkF m 358 #[.val (.int p0), .val (.int p1), .val (.int p2), .val (.int p3), .val (.int p4), .val (.ref b1), .val (.ref b15), .val (.ref b34), .val (.ref b122), .val (.int (Int32.ofNat c0)), .val (.int (Int32.ofNat c1)), .val (.int (Int32.ofNat c2)), .val (.int (Int32.ofNat c3)), .val (.int (Int32.ofNat c4)), .val (.int (Int32.ofNat c5)), .val (.int (Int32.ofNat s0)), .val (.int (Int32.ofNat s0)), .val (.int (Int32.ofNat ((s0 + 1) % 4))), .val (.int (Int32.ofNat ((s0 + 2) % 4))), .val (.int (Int32.ofNat ((s0 + 3) % 4))), .val (.int (Int32.ofNat x0)), .val (.int (Int32.ofNat (own_rt (own_fc (own_fc (own_fc (own_fc Pa2_216 s0) ((s0 + 1) % 4)) ((s0 + 2) % 4)) ((s0 + 3) % 4)) 4 x0))), .val (.int (1 : Int32))] [(.int (1 : Int32)), (.int (0 : Int32)), (.ref b122), (.ref b34)])) rfl (by rw [hml]; rfl) (argsL := [(.ref b34), (.ref b122), (.int (0 : Int32)), (.int (1 : Int32))]) (rest := []) (lenOf pd___I_III_Z rfl) rfl (by show 2 * 0 + _ ≤ _; exact Nat.le_of_eq rfl) (hb hby at_358) (fun _ _ => ⟨rfl, e434, (by decide : 14 + 0 ≤ _), (by decide : 45 + 0 ≤ _)⟩)
  dsimp only [Pt.U, Pt.locs, Pt.cells, Pt.slots] at X437 l437 y437 z437 st437 hQ437
  subst l437 y437 z437
  obtain ⟨rfl, N437q, e437⟩ := hQ437
  have N437 := Fr.app N434 N437q
  refine OG.step st437 ?_
  obtain ⟨Lz438, X437, N437⟩ : ∃ Lz, Stand p l e room_1 s m #[(.int p0), (.int p1), (.int p2), (.int p3), (.int p4)] below meth c T437 Lz 14 45 ∧ Fr n0 Lz := ⟨_, X437, N437⟩
  show OG _ _ _ _ _ _ _ (T437.setTop (mkF m 361 #[.val (.int p0), .val (.int p1), .val (.int p2), .val (.int p3), .val (.int p4), .val (.ref b1), .val (.ref b15), .val (.ref b34), .val (.ref b122), .val (.int (Int32.ofNat c0)), .val (.int (Int32.ofNat c1)), .val (.int (Int32.ofNat c2)), .val (.int (Int32.ofNat c3)), .val (.int (Int32.ofNat c4)), .val (.int (Int32.ofNat c5)), .val (.int (Int32.ofNat s0)), .val (.int (Int32.ofNat s0)), .val (.int (Int32.ofNat ((s0 + 1) % 4))), .val (.int (Int32.ofNat ((s0 + 2) % 4))), .val (.int (Int32.ofNat ((s0 + 3) % 4))), .val (.int (Int32.ofNat x0)), .val (.int (Int32.ofNat (own_rt (own_fc (own_fc (own_fc (own_fc Pa2_216 s0) ((s0 + 1) % 4)) ((s0 + 2) % 4)) ((s0 + 3) % 4)) 4 x0))), .val (.int (1 : Int32))] [(.int (bI ((own_g ((((([0, 0, 0, 0]).set s0 (own_rt Pa2_216 4 s0)).set ((s0 + 1) % 4) (own_rt (own_fc Pa2_216 s0) 4 ((s0 + 1) % 4))).set ((s0 + 2) % 4) (own_rt (own_fc (own_fc Pa2_216 s0) ((s0 + 1) % 4)) 4 ((s0 + 2) % 4))).set ((s0 + 3) % 4) (own_rt (own_fc (own_fc (own_fc Pa2_216 s0) ((s0 + 1) % 4)) ((s0 + 2) % 4)) 4 ((s0 + 3) % 4))) 0 = own_g ((((([0, 0, 0, 0]).set s0 (own_rt Pa2_216 4 s0)).set ((s0 + 1) % 4) (own_rt (own_fc Pa2_216 s0) 4 ((s0 + 1) % 4))).set ((s0 + 2) % 4) (own_rt (own_fc (own_fc Pa2_216 s0) ((s0 + 1) % 4)) 4 ((s0 + 2) % 4))).set ((s0 + 3) % 4) (own_rt (own_fc (own_fc (own_fc Pa2_216 s0) ((s0 + 1) % 4)) ((s0 + 2) % 4)) 4 ((s0 + 3) % 4))) 1) ↔ (own_g (own_rl (own_rl (own_rl [0, 1, 2, 3] c0 c1) c2 c3) c4 c5) 0 = own_g (own_rl (own_rl (own_rl [0, 1, 2, 3] c0 c1) c2 c3) c4 c5) 1))))]))
  have s439 : ∀ tz, Steps p.tables e below (T437.setTop (mkF m 382 #[.val (.int p0), .val (.int p1), .val (.int p2), .val (.int p3), .val (.int p4), .val (.ref b1), .val (.ref b15), .val (.ref b34), .val (.ref b122), .val (.int (Int32.ofNat c0)), .val (.int (Int32.ofNat c1)), .val (.int (Int32.ofNat c2)), .val (.int (Int32.ofNat c3)), .val (.int (Int32.ofNat c4)), .val (.int (Int32.ofNat c5)), .val (.int (Int32.ofNat s0)), .val (.int (Int32.ofNat s0)), .val (.int (Int32.ofNat ((s0 + 1) % 4))), .val (.int (Int32.ofNat ((s0 + 2) % 4))), .val (.int (Int32.ofNat ((s0 + 3) % 4))), .val (.int (Int32.ofNat x0)), .val (.int (Int32.ofNat (own_rt (own_fc (own_fc (own_fc (own_fc Pa2_216 s0) ((s0 + 1) % 4)) ((s0 + 2) % 4)) ((s0 + 3) % 4)) 4 x0))), .val (.int (1 : Int32))] [(.int (2 : Int32)), (.int (0 : Int32)), (.ref b122), (.ref b34)])) tz → Steps p.tables e below (T437.setTop (mkF m 361 #[.val (.int p0), .val (.int p1), .val (.int p2), .val (.int p3), .val (.int p4), .val (.ref b1), .val (.ref b15), .val (.ref b34), .val (.ref b122), .val (.int (Int32.ofNat c0)), .val (.int (Int32.ofNat c1)), .val (.int (Int32.ofNat c2)), .val (.int (Int32.ofNat c3)), .val (.int (Int32.ofNat c4)), .val (.int (Int32.ofNat c5)), .val (.int (Int32.ofNat s0)), .val (.int (Int32.ofNat s0)), .val (.int (Int32.ofNat ((s0 + 1) % 4))), .val (.int (Int32.ofNat ((s0 + 2) % 4))), .val (.int (Int32.ofNat ((s0 + 3) % 4))), .val (.int (Int32.ofNat x0)), .val (.int (Int32.ofNat (own_rt (own_fc (own_fc (own_fc (own_fc Pa2_216 s0) ((s0 + 1) % 4)) ((s0 + 2) % 4)) ((s0 + 3) % 4)) 4 x0))), .val (.int (1 : Int32))] [(.int (bI ((own_g ((((([0, 0, 0, 0]).set s0 (own_rt Pa2_216 4 s0)).set ((s0 + 1) % 4) (own_rt (own_fc Pa2_216 s0) 4 ((s0 + 1) % 4))).set ((s0 + 2) % 4) (own_rt (own_fc (own_fc Pa2_216 s0) ((s0 + 1) % 4)) 4 ((s0 + 2) % 4))).set ((s0 + 3) % 4) (own_rt (own_fc (own_fc (own_fc Pa2_216 s0) ((s0 + 1) % 4)) ((s0 + 2) % 4)) 4 ((s0 + 3) % 4))) 0 = own_g ((((([0, 0, 0, 0]).set s0 (own_rt Pa2_216 4 s0)).set ((s0 + 1) % 4) (own_rt (own_fc Pa2_216 s0) 4 ((s0 + 1) % 4))).set ((s0 + 2) % 4) (own_rt (own_fc (own_fc Pa2_216 s0) ((s0 + 1) % 4)) 4 ((s0 + 2) % 4))).set ((s0 + 3) % 4) (own_rt (own_fc (own_fc (own_fc Pa2_216 s0) ((s0 + 1) % 4)) ((s0 + 2) % 4)) 4 ((s0 + 3) % 4))) 1) ↔ (own_g (own_rl (own_rl (own_rl [0, 1, 2, 3] c0 c1) c2 c3) c4 c5) 0 = own_g (own_rl (own_rl (own_rl [0, 1, 2, 3] c0 c1) c2 c3) c4 c5) 1))))])) tz := by
    intro tz kz
    refine XS.ifNo X437.here hx rfl (hb hby at_361) rfl ((if0 _ _).trans (feq (bI_ne0 (hch.2.2.2.2.2.2.2.2.2 0 (by decide) 1 (by decide)))).1) ?_
    refine XS.iconst X437.here hx rfl (hb hby at_364) ?_
    refine XS.goto X437.here hx rfl (pc0 := 365) (pc' := 369) rfl (hb hby at_365) (by decide) (by decide) ?_
    refine XS.istore X437.here hx rfl (hb hby at_369) rfl (l' := #[.val (.int p0), .val (.int p1), .val (.int p2), .val (.int p3), .val (.int p4), .val (.ref b1), .val (.ref b15), .val (.ref b34), .val (.ref b122), .val (.int (Int32.ofNat c0)), .val (.int (Int32.ofNat c1)), .val (.int (Int32.ofNat c2)), .val (.int (Int32.ofNat c3)), .val (.int (Int32.ofNat c4)), .val (.int (Int32.ofNat c5)), .val (.int (Int32.ofNat s0)), .val (.int (Int32.ofNat s0)), .val (.int (Int32.ofNat ((s0 + 1) % 4))), .val (.int (Int32.ofNat ((s0 + 2) % 4))), .val (.int (Int32.ofNat ((s0 + 3) % 4))), .val (.int (Int32.ofNat x0)), .val (.int (Int32.ofNat (own_rt (own_fc (own_fc (own_fc (own_fc Pa2_216 s0) ((s0 + 1) % 4)) ((s0 + 2) % 4)) ((s0 + 3) % 4)) 4 x0))), .val (.int (1 : Int32))]) rfl ?_
    refine XS.iload X437.here hx rfl (hb hby at_371) rfl ?_
    show Steps p.tables e below (T437.setTop (mkF m 373 #[.val (.int p0), .val (.int p1), .val (.int p2), .val (.int p3), .val (.int p4), .val (.ref b1), .val (.ref b15), .val (.ref b34), .val (.ref b122), .val (.int (Int32.ofNat c0)), .val (.int (Int32.ofNat c1)), .val (.int (Int32.ofNat c2)), .val (.int (Int32.ofNat c3)), .val (.int (Int32.ofNat c4)), .val (.int (Int32.ofNat c5)), .val (.int (Int32.ofNat s0)), .val (.int (Int32.ofNat s0)), .val (.int (Int32.ofNat ((s0 + 1) % 4))), .val (.int (Int32.ofNat ((s0 + 2) % 4))), .val (.int (Int32.ofNat ((s0 + 3) % 4))), .val (.int (Int32.ofNat x0)), .val (.int (Int32.ofNat (own_rt (own_fc (own_fc (own_fc (own_fc Pa2_216 s0) ((s0 + 1) % 4)) ((s0 + 2) % 4)) ((s0 + 3) % 4)) 4 x0))), .val (.int (1 : Int32))] [(.int (1 : Int32))])) _
    refine XS.ifNo X437.here hx rfl (hb hby at_373) rfl ((if0 _ _).trans (feq (by decide)).1) ?_
    refine XS.aload X437.here hx rfl (hb hby at_376) rfl rfl ?_
    refine XS.aload X437.here hx rfl (hb hby at_378) rfl rfl ?_
    refine XS.iconst X437.here hx rfl (hb hby at_380) ?_
    refine XS.iconst X437.here hx rfl (hb hby at_381) ?_
    exact kz
  refine OG.step s439 ?_
  obtain ⟨_, _, ⟨T440, L440, k440, n440⟩, -, X440, ⟨Lc440, hQ440, l440, y440, z440⟩, st440⟩ := Jvm.LawKit.callS X437 hx (y := (⟨"com/example/tidegraph/tidegraph/amd64/LiveRangesFindPinLaw", "same", "([I[III)Z"⟩ : MethodName)) hown (mvT hZ (hw _ (List.mem_of_getElem? (i := 84) rfl))) (mvT hZ (hw _ (List.mem_of_getElem? (i := 85) rfl))) (mvT hZ (hw _ (List.mem_of_getElem? (i := 68) rfl))) (mvT hZ (hw _ (List.mem_of_getElem? (i := 86) rfl))) (by decide) (backOf (W := 0) (rm13 l Z a0 hw [] b34 b122 0 2 k34 k122 (own_rl (own_rl (own_rl [0, 1, 2, 3] c0 c1) c2 c3) c4 c5) ((((([0, 0, 0, 0]).set s0 (own_rt Pa2_216 4 s0)).set ((s0 + 1) % 4) (own_rt (own_fc Pa2_216 s0) 4 ((s0 + 1) % 4))).set ((s0 + 2) % 4) (own_rt (own_fc (own_fc Pa2_216 s0) ((s0 + 1) % 4)) 4 ((s0 + 2) % 4))).set ((s0 + 3) % 4) (own_rt (own_fc (own_fc (own_fc Pa2_216 s0) ((s0 + 1) % 4)) ((s0 + 2) % 4)) 4 ((s0 + 3) % 4))) T404.heap n0 (Nat.le_trans Z0 K404.1) f418 f420 hch.2.2.2.2.2.1 hch.2.2.2.2.2.2.1 (by decide) (by decide)) hZ (hw _ (List.mem_of_getElem? (i := 86) rfl)) (hw _ (List.mem_of_getElem? (i := 68) rfl)) (by decide) (by decide)) (g := (mkF m 382 #[.val (.int p0), .val (.int p1), .val (.int p2), .val (.int p3), .val (.int p4), .val (.ref b1), .val (.ref b15), .val (.ref b34), .val (.ref b122), .val (.int (Int32.ofNat c0)), .val (.int (Int32.ofNat c1)), .val (.int (Int32.ofNat c2)), .val (.int (Int32.ofNat c3)), .val (.int (Int32.ofNat c4)), .val (.int (Int32.ofNat c5)), .val (.int (Int32.ofNat s0)), .val (.int (Int32.ofNat s0)), .val (.int (Int32.ofNat ((s0 + 1) % 4))), .val (.int (Int32.ofNat ((s0 + 2) % 4))), .val (.int (Int32.ofNat ((s0 + 3) % 4))), .val (.int (Int32.ofNat x0)), .val (.int (Int32.ofNat (own_rt (own_fc (own_fc (own_fc (own_fc Pa2_216 s0) ((s0 + 1) % 4)) ((s0 + 2) % 4)) ((s0 + 3) % 4)) 4 x0))), .val (.int (1 : Int32))] [(.int (2 : Int32)), (.int (0 : Int32)), (.ref b122), (.ref b34)])) rfl (by rw [hml]; rfl) (argsL := [(.ref b34), (.ref b122), (.int (0 : Int32)), (.int (2 : Int32))]) (rest := []) (lenOf pd___I_III_Z rfl) rfl (by show 2 * 0 + _ ≤ _; exact Nat.le_of_eq rfl) (hb hby at_382) (fun _ _ => ⟨rfl, e437, (by decide : 14 + 0 ≤ _), (by decide : 45 + 0 ≤ _)⟩)
  dsimp only [Pt.U, Pt.locs, Pt.cells, Pt.slots] at X440 l440 y440 z440 st440 hQ440
  subst l440 y440 z440
  obtain ⟨rfl, N440q, e440⟩ := hQ440
  have N440 := Fr.app N437 N440q
  refine OG.step st440 ?_
  obtain ⟨Lz441, X440, N440⟩ : ∃ Lz, Stand p l e room_1 s m #[(.int p0), (.int p1), (.int p2), (.int p3), (.int p4)] below meth c T440 Lz 14 45 ∧ Fr n0 Lz := ⟨_, X440, N440⟩
  show OG _ _ _ _ _ _ _ (T440.setTop (mkF m 385 #[.val (.int p0), .val (.int p1), .val (.int p2), .val (.int p3), .val (.int p4), .val (.ref b1), .val (.ref b15), .val (.ref b34), .val (.ref b122), .val (.int (Int32.ofNat c0)), .val (.int (Int32.ofNat c1)), .val (.int (Int32.ofNat c2)), .val (.int (Int32.ofNat c3)), .val (.int (Int32.ofNat c4)), .val (.int (Int32.ofNat c5)), .val (.int (Int32.ofNat s0)), .val (.int (Int32.ofNat s0)), .val (.int (Int32.ofNat ((s0 + 1) % 4))), .val (.int (Int32.ofNat ((s0 + 2) % 4))), .val (.int (Int32.ofNat ((s0 + 3) % 4))), .val (.int (Int32.ofNat x0)), .val (.int (Int32.ofNat (own_rt (own_fc (own_fc (own_fc (own_fc Pa2_216 s0) ((s0 + 1) % 4)) ((s0 + 2) % 4)) ((s0 + 3) % 4)) 4 x0))), .val (.int (1 : Int32))] [(.int (bI ((own_g ((((([0, 0, 0, 0]).set s0 (own_rt Pa2_216 4 s0)).set ((s0 + 1) % 4) (own_rt (own_fc Pa2_216 s0) 4 ((s0 + 1) % 4))).set ((s0 + 2) % 4) (own_rt (own_fc (own_fc Pa2_216 s0) ((s0 + 1) % 4)) 4 ((s0 + 2) % 4))).set ((s0 + 3) % 4) (own_rt (own_fc (own_fc (own_fc Pa2_216 s0) ((s0 + 1) % 4)) ((s0 + 2) % 4)) 4 ((s0 + 3) % 4))) 0 = own_g ((((([0, 0, 0, 0]).set s0 (own_rt Pa2_216 4 s0)).set ((s0 + 1) % 4) (own_rt (own_fc Pa2_216 s0) 4 ((s0 + 1) % 4))).set ((s0 + 2) % 4) (own_rt (own_fc (own_fc Pa2_216 s0) ((s0 + 1) % 4)) 4 ((s0 + 2) % 4))).set ((s0 + 3) % 4) (own_rt (own_fc (own_fc (own_fc Pa2_216 s0) ((s0 + 1) % 4)) ((s0 + 2) % 4)) 4 ((s0 + 3) % 4))) 2) ↔ (own_g (own_rl (own_rl (own_rl [0, 1, 2, 3] c0 c1) c2 c3) c4 c5) 0 = own_g (own_rl (own_rl (own_rl [0, 1, 2, 3] c0 c1) c2 c3) c4 c5) 2))))]))
  have s442 : ∀ tz, Steps p.tables e below (T440.setTop (mkF m 406 #[.val (.int p0), .val (.int p1), .val (.int p2), .val (.int p3), .val (.int p4), .val (.ref b1), .val (.ref b15), .val (.ref b34), .val (.ref b122), .val (.int (Int32.ofNat c0)), .val (.int (Int32.ofNat c1)), .val (.int (Int32.ofNat c2)), .val (.int (Int32.ofNat c3)), .val (.int (Int32.ofNat c4)), .val (.int (Int32.ofNat c5)), .val (.int (Int32.ofNat s0)), .val (.int (Int32.ofNat s0)), .val (.int (Int32.ofNat ((s0 + 1) % 4))), .val (.int (Int32.ofNat ((s0 + 2) % 4))), .val (.int (Int32.ofNat ((s0 + 3) % 4))), .val (.int (Int32.ofNat x0)), .val (.int (Int32.ofNat (own_rt (own_fc (own_fc (own_fc (own_fc Pa2_216 s0) ((s0 + 1) % 4)) ((s0 + 2) % 4)) ((s0 + 3) % 4)) 4 x0))), .val (.int (1 : Int32))] [(.int (3 : Int32)), (.int (0 : Int32)), (.ref b122), (.ref b34)])) tz → Steps p.tables e below (T440.setTop (mkF m 385 #[.val (.int p0), .val (.int p1), .val (.int p2), .val (.int p3), .val (.int p4), .val (.ref b1), .val (.ref b15), .val (.ref b34), .val (.ref b122), .val (.int (Int32.ofNat c0)), .val (.int (Int32.ofNat c1)), .val (.int (Int32.ofNat c2)), .val (.int (Int32.ofNat c3)), .val (.int (Int32.ofNat c4)), .val (.int (Int32.ofNat c5)), .val (.int (Int32.ofNat s0)), .val (.int (Int32.ofNat s0)), .val (.int (Int32.ofNat ((s0 + 1) % 4))), .val (.int (Int32.ofNat ((s0 + 2) % 4))), .val (.int (Int32.ofNat ((s0 + 3) % 4))), .val (.int (Int32.ofNat x0)), .val (.int (Int32.ofNat (own_rt (own_fc (own_fc (own_fc (own_fc Pa2_216 s0) ((s0 + 1) % 4)) ((s0 + 2) % 4)) ((s0 + 3) % 4)) 4 x0))), .val (.int (1 : Int32))] [(.int (bI ((own_g ((((([0, 0, 0, 0]).set s0 (own_rt Pa2_216 4 s0)).set ((s0 + 1) % 4) (own_rt (own_fc Pa2_216 s0) 4 ((s0 + 1) % 4))).set ((s0 + 2) % 4) (own_rt (own_fc (own_fc Pa2_216 s0) ((s0 + 1) % 4)) 4 ((s0 + 2) % 4))).set ((s0 + 3) % 4) (own_rt (own_fc (own_fc (own_fc Pa2_216 s0) ((s0 + 1) % 4)) ((s0 + 2) % 4)) 4 ((s0 + 3) % 4))) 0 = own_g ((((([0, 0, 0, 0]).set s0 (own_rt Pa2_216 4 s0)).set ((s0 + 1) % 4) (own_rt (own_fc Pa2_216 s0) 4 ((s0 + 1) % 4))).set ((s0 + 2) % 4) (own_rt (own_fc (own_fc Pa2_216 s0) ((s0 + 1) % 4)) 4 ((s0 + 2) % 4))).set ((s0 + 3) % 4) (own_rt (own_fc (own_fc (own_fc Pa2_216 s0) ((s0 + 1) % 4)) ((s0 + 2) % 4)) 4 ((s0 + 3) % 4))) 2) ↔ (own_g (own_rl (own_rl (own_rl [0, 1, 2, 3] c0 c1) c2 c3) c4 c5) 0 = own_g (own_rl (own_rl (own_rl [0, 1, 2, 3] c0 c1) c2 c3) c4 c5) 2))))])) tz := by
    intro tz kz
    refine XS.ifNo X440.here hx rfl (hb hby at_385) rfl ((if0 _ _).trans (feq (bI_ne0 (hch.2.2.2.2.2.2.2.2.2 0 (by decide) 2 (by decide)))).1) ?_
    refine XS.iconst X440.here hx rfl (hb hby at_388) ?_
    refine XS.goto X440.here hx rfl (pc0 := 389) (pc' := 393) rfl (hb hby at_389) (by decide) (by decide) ?_
    refine XS.istore X440.here hx rfl (hb hby at_393) rfl (l' := #[.val (.int p0), .val (.int p1), .val (.int p2), .val (.int p3), .val (.int p4), .val (.ref b1), .val (.ref b15), .val (.ref b34), .val (.ref b122), .val (.int (Int32.ofNat c0)), .val (.int (Int32.ofNat c1)), .val (.int (Int32.ofNat c2)), .val (.int (Int32.ofNat c3)), .val (.int (Int32.ofNat c4)), .val (.int (Int32.ofNat c5)), .val (.int (Int32.ofNat s0)), .val (.int (Int32.ofNat s0)), .val (.int (Int32.ofNat ((s0 + 1) % 4))), .val (.int (Int32.ofNat ((s0 + 2) % 4))), .val (.int (Int32.ofNat ((s0 + 3) % 4))), .val (.int (Int32.ofNat x0)), .val (.int (Int32.ofNat (own_rt (own_fc (own_fc (own_fc (own_fc Pa2_216 s0) ((s0 + 1) % 4)) ((s0 + 2) % 4)) ((s0 + 3) % 4)) 4 x0))), .val (.int (1 : Int32))]) rfl ?_
    refine XS.iload X440.here hx rfl (hb hby at_395) rfl ?_
    show Steps p.tables e below (T440.setTop (mkF m 397 #[.val (.int p0), .val (.int p1), .val (.int p2), .val (.int p3), .val (.int p4), .val (.ref b1), .val (.ref b15), .val (.ref b34), .val (.ref b122), .val (.int (Int32.ofNat c0)), .val (.int (Int32.ofNat c1)), .val (.int (Int32.ofNat c2)), .val (.int (Int32.ofNat c3)), .val (.int (Int32.ofNat c4)), .val (.int (Int32.ofNat c5)), .val (.int (Int32.ofNat s0)), .val (.int (Int32.ofNat s0)), .val (.int (Int32.ofNat ((s0 + 1) % 4))), .val (.int (Int32.ofNat ((s0 + 2) % 4))), .val (.int (Int32.ofNat ((s0 + 3) % 4))), .val (.int (Int32.ofNat x0)), .val (.int (Int32.ofNat (own_rt (own_fc (own_fc (own_fc (own_fc Pa2_216 s0) ((s0 + 1) % 4)) ((s0 + 2) % 4)) ((s0 + 3) % 4)) 4 x0))), .val (.int (1 : Int32))] [(.int (1 : Int32))])) _
    refine XS.ifNo X440.here hx rfl (hb hby at_397) rfl ((if0 _ _).trans (feq (by decide)).1) ?_
    refine XS.aload X440.here hx rfl (hb hby at_400) rfl rfl ?_
    refine XS.aload X440.here hx rfl (hb hby at_402) rfl rfl ?_
    refine XS.iconst X440.here hx rfl (hb hby at_404) ?_
    refine XS.iconst X440.here hx rfl (hb hby at_405) ?_
    exact kz
  refine OG.step s442 ?_
  obtain ⟨_, _, ⟨T443, L443, k443, n443⟩, -, X443, ⟨Lc443, hQ443, l443, y443, z443⟩, st443⟩ := Jvm.LawKit.callS X440 hx (y := (⟨"com/example/tidegraph/tidegraph/amd64/LiveRangesFindPinLaw", "same", "([I[III)Z"⟩ : MethodName)) hown (mvT hZ (hw _ (List.mem_of_getElem? (i := 84) rfl))) (mvT hZ (hw _ (List.mem_of_getElem? (i := 85) rfl))) (mvT hZ (hw _ (List.mem_of_getElem? (i := 68) rfl))) (mvT hZ (hw _ (List.mem_of_getElem? (i := 86) rfl))) (by decide) (backOf (W := 0) (rm13 l Z a0 hw [] b34 b122 0 3 k34 k122 (own_rl (own_rl (own_rl [0, 1, 2, 3] c0 c1) c2 c3) c4 c5) ((((([0, 0, 0, 0]).set s0 (own_rt Pa2_216 4 s0)).set ((s0 + 1) % 4) (own_rt (own_fc Pa2_216 s0) 4 ((s0 + 1) % 4))).set ((s0 + 2) % 4) (own_rt (own_fc (own_fc Pa2_216 s0) ((s0 + 1) % 4)) 4 ((s0 + 2) % 4))).set ((s0 + 3) % 4) (own_rt (own_fc (own_fc (own_fc Pa2_216 s0) ((s0 + 1) % 4)) ((s0 + 2) % 4)) 4 ((s0 + 3) % 4))) T404.heap n0 (Nat.le_trans Z0 K404.1) f418 f420 hch.2.2.2.2.2.1 hch.2.2.2.2.2.2.1 (by decide) (by decide)) hZ (hw _ (List.mem_of_getElem? (i := 86) rfl)) (hw _ (List.mem_of_getElem? (i := 68) rfl)) (by decide) (by decide)) (g := (mkF m 406 #[.val (.int p0), .val (.int p1), .val (.int p2), .val (.int p3), .val (.int p4), .val (.ref b1), .val (.ref b15), .val (.ref b34), .val (.ref b122), .val (.int (Int32.ofNat c0)), .val (.int (Int32.ofNat c1)), .val (.int (Int32.ofNat c2)), .val (.int (Int32.ofNat c3)), .val (.int (Int32.ofNat c4)), .val (.int (Int32.ofNat c5)), .val (.int (Int32.ofNat s0)), .val (.int (Int32.ofNat s0)), .val (.int (Int32.ofNat ((s0 + 1) % 4))), .val (.int (Int32.ofNat ((s0 + 2) % 4))), .val (.int (Int32.ofNat ((s0 + 3) % 4))), .val (.int (Int32.ofNat x0)), .val (.int (Int32.ofNat (own_rt (own_fc (own_fc (own_fc (own_fc Pa2_216 s0) ((s0 + 1) % 4)) ((s0 + 2) % 4)) ((s0 + 3) % 4)) 4 x0))), .val (.int (1 : Int32))] [(.int (3 : Int32)), (.int (0 : Int32)), (.ref b122), (.ref b34)])) rfl (by rw [hml]; rfl) (argsL := [(.ref b34), (.ref b122), (.int (0 : Int32)), (.int (3 : Int32))]) (rest := []) (lenOf pd___I_III_Z rfl) rfl (by show 2 * 0 + _ ≤ _; exact Nat.le_of_eq rfl) (hb hby at_406) (fun _ _ => ⟨rfl, e440, (by decide : 14 + 0 ≤ _), (by decide : 45 + 0 ≤ _)⟩)
  dsimp only [Pt.U, Pt.locs, Pt.cells, Pt.slots] at X443 l443 y443 z443 st443 hQ443
  subst l443 y443 z443
  obtain ⟨rfl, N443q, e443⟩ := hQ443
  have N443 := Fr.app N440 N443q
  refine OG.step st443 ?_
  obtain ⟨Lz444, X443, N443⟩ : ∃ Lz, Stand p l e room_1 s m #[(.int p0), (.int p1), (.int p2), (.int p3), (.int p4)] below meth c T443 Lz 14 45 ∧ Fr n0 Lz := ⟨_, X443, N443⟩
  show OG _ _ _ _ _ _ _ (T443.setTop (mkF m 409 #[.val (.int p0), .val (.int p1), .val (.int p2), .val (.int p3), .val (.int p4), .val (.ref b1), .val (.ref b15), .val (.ref b34), .val (.ref b122), .val (.int (Int32.ofNat c0)), .val (.int (Int32.ofNat c1)), .val (.int (Int32.ofNat c2)), .val (.int (Int32.ofNat c3)), .val (.int (Int32.ofNat c4)), .val (.int (Int32.ofNat c5)), .val (.int (Int32.ofNat s0)), .val (.int (Int32.ofNat s0)), .val (.int (Int32.ofNat ((s0 + 1) % 4))), .val (.int (Int32.ofNat ((s0 + 2) % 4))), .val (.int (Int32.ofNat ((s0 + 3) % 4))), .val (.int (Int32.ofNat x0)), .val (.int (Int32.ofNat (own_rt (own_fc (own_fc (own_fc (own_fc Pa2_216 s0) ((s0 + 1) % 4)) ((s0 + 2) % 4)) ((s0 + 3) % 4)) 4 x0))), .val (.int (1 : Int32))] [(.int (bI ((own_g ((((([0, 0, 0, 0]).set s0 (own_rt Pa2_216 4 s0)).set ((s0 + 1) % 4) (own_rt (own_fc Pa2_216 s0) 4 ((s0 + 1) % 4))).set ((s0 + 2) % 4) (own_rt (own_fc (own_fc Pa2_216 s0) ((s0 + 1) % 4)) 4 ((s0 + 2) % 4))).set ((s0 + 3) % 4) (own_rt (own_fc (own_fc (own_fc Pa2_216 s0) ((s0 + 1) % 4)) ((s0 + 2) % 4)) 4 ((s0 + 3) % 4))) 0 = own_g ((((([0, 0, 0, 0]).set s0 (own_rt Pa2_216 4 s0)).set ((s0 + 1) % 4) (own_rt (own_fc Pa2_216 s0) 4 ((s0 + 1) % 4))).set ((s0 + 2) % 4) (own_rt (own_fc (own_fc Pa2_216 s0) ((s0 + 1) % 4)) 4 ((s0 + 2) % 4))).set ((s0 + 3) % 4) (own_rt (own_fc (own_fc (own_fc Pa2_216 s0) ((s0 + 1) % 4)) ((s0 + 2) % 4)) 4 ((s0 + 3) % 4))) 3) ↔ (own_g (own_rl (own_rl (own_rl [0, 1, 2, 3] c0 c1) c2 c3) c4 c5) 0 = own_g (own_rl (own_rl (own_rl [0, 1, 2, 3] c0 c1) c2 c3) c4 c5) 3))))]))
  have s445 : ∀ tz, Steps p.tables e below (T443.setTop (mkF m 430 #[.val (.int p0), .val (.int p1), .val (.int p2), .val (.int p3), .val (.int p4), .val (.ref b1), .val (.ref b15), .val (.ref b34), .val (.ref b122), .val (.int (Int32.ofNat c0)), .val (.int (Int32.ofNat c1)), .val (.int (Int32.ofNat c2)), .val (.int (Int32.ofNat c3)), .val (.int (Int32.ofNat c4)), .val (.int (Int32.ofNat c5)), .val (.int (Int32.ofNat s0)), .val (.int (Int32.ofNat s0)), .val (.int (Int32.ofNat ((s0 + 1) % 4))), .val (.int (Int32.ofNat ((s0 + 2) % 4))), .val (.int (Int32.ofNat ((s0 + 3) % 4))), .val (.int (Int32.ofNat x0)), .val (.int (Int32.ofNat (own_rt (own_fc (own_fc (own_fc (own_fc Pa2_216 s0) ((s0 + 1) % 4)) ((s0 + 2) % 4)) ((s0 + 3) % 4)) 4 x0))), .val (.int (1 : Int32))] [(.int (2 : Int32)), (.int (1 : Int32)), (.ref b122), (.ref b34)])) tz → Steps p.tables e below (T443.setTop (mkF m 409 #[.val (.int p0), .val (.int p1), .val (.int p2), .val (.int p3), .val (.int p4), .val (.ref b1), .val (.ref b15), .val (.ref b34), .val (.ref b122), .val (.int (Int32.ofNat c0)), .val (.int (Int32.ofNat c1)), .val (.int (Int32.ofNat c2)), .val (.int (Int32.ofNat c3)), .val (.int (Int32.ofNat c4)), .val (.int (Int32.ofNat c5)), .val (.int (Int32.ofNat s0)), .val (.int (Int32.ofNat s0)), .val (.int (Int32.ofNat ((s0 + 1) % 4))), .val (.int (Int32.ofNat ((s0 + 2) % 4))), .val (.int (Int32.ofNat ((s0 + 3) % 4))), .val (.int (Int32.ofNat x0)), .val (.int (Int32.ofNat (own_rt (own_fc (own_fc (own_fc (own_fc Pa2_216 s0) ((s0 + 1) % 4)) ((s0 + 2) % 4)) ((s0 + 3) % 4)) 4 x0))), .val (.int (1 : Int32))] [(.int (bI ((own_g ((((([0, 0, 0, 0]).set s0 (own_rt Pa2_216 4 s0)).set ((s0 + 1) % 4) (own_rt (own_fc Pa2_216 s0) 4 ((s0 + 1) % 4))).set ((s0 + 2) % 4) (own_rt (own_fc (own_fc Pa2_216 s0) ((s0 + 1) % 4)) 4 ((s0 + 2) % 4))).set ((s0 + 3) % 4) (own_rt (own_fc (own_fc (own_fc Pa2_216 s0) ((s0 + 1) % 4)) ((s0 + 2) % 4)) 4 ((s0 + 3) % 4))) 0 = own_g ((((([0, 0, 0, 0]).set s0 (own_rt Pa2_216 4 s0)).set ((s0 + 1) % 4) (own_rt (own_fc Pa2_216 s0) 4 ((s0 + 1) % 4))).set ((s0 + 2) % 4) (own_rt (own_fc (own_fc Pa2_216 s0) ((s0 + 1) % 4)) 4 ((s0 + 2) % 4))).set ((s0 + 3) % 4) (own_rt (own_fc (own_fc (own_fc Pa2_216 s0) ((s0 + 1) % 4)) ((s0 + 2) % 4)) 4 ((s0 + 3) % 4))) 3) ↔ (own_g (own_rl (own_rl (own_rl [0, 1, 2, 3] c0 c1) c2 c3) c4 c5) 0 = own_g (own_rl (own_rl (own_rl [0, 1, 2, 3] c0 c1) c2 c3) c4 c5) 3))))])) tz := by
    intro tz kz
    refine XS.ifNo X443.here hx rfl (hb hby at_409) rfl ((if0 _ _).trans (feq (bI_ne0 (hch.2.2.2.2.2.2.2.2.2 0 (by decide) 3 (by decide)))).1) ?_
    refine XS.iconst X443.here hx rfl (hb hby at_412) ?_
    refine XS.goto X443.here hx rfl (pc0 := 413) (pc' := 417) rfl (hb hby at_413) (by decide) (by decide) ?_
    refine XS.istore X443.here hx rfl (hb hby at_417) rfl (l' := #[.val (.int p0), .val (.int p1), .val (.int p2), .val (.int p3), .val (.int p4), .val (.ref b1), .val (.ref b15), .val (.ref b34), .val (.ref b122), .val (.int (Int32.ofNat c0)), .val (.int (Int32.ofNat c1)), .val (.int (Int32.ofNat c2)), .val (.int (Int32.ofNat c3)), .val (.int (Int32.ofNat c4)), .val (.int (Int32.ofNat c5)), .val (.int (Int32.ofNat s0)), .val (.int (Int32.ofNat s0)), .val (.int (Int32.ofNat ((s0 + 1) % 4))), .val (.int (Int32.ofNat ((s0 + 2) % 4))), .val (.int (Int32.ofNat ((s0 + 3) % 4))), .val (.int (Int32.ofNat x0)), .val (.int (Int32.ofNat (own_rt (own_fc (own_fc (own_fc (own_fc Pa2_216 s0) ((s0 + 1) % 4)) ((s0 + 2) % 4)) ((s0 + 3) % 4)) 4 x0))), .val (.int (1 : Int32))]) rfl ?_
    refine XS.iload X443.here hx rfl (hb hby at_419) rfl ?_
    show Steps p.tables e below (T443.setTop (mkF m 421 #[.val (.int p0), .val (.int p1), .val (.int p2), .val (.int p3), .val (.int p4), .val (.ref b1), .val (.ref b15), .val (.ref b34), .val (.ref b122), .val (.int (Int32.ofNat c0)), .val (.int (Int32.ofNat c1)), .val (.int (Int32.ofNat c2)), .val (.int (Int32.ofNat c3)), .val (.int (Int32.ofNat c4)), .val (.int (Int32.ofNat c5)), .val (.int (Int32.ofNat s0)), .val (.int (Int32.ofNat s0)), .val (.int (Int32.ofNat ((s0 + 1) % 4))), .val (.int (Int32.ofNat ((s0 + 2) % 4))), .val (.int (Int32.ofNat ((s0 + 3) % 4))), .val (.int (Int32.ofNat x0)), .val (.int (Int32.ofNat (own_rt (own_fc (own_fc (own_fc (own_fc Pa2_216 s0) ((s0 + 1) % 4)) ((s0 + 2) % 4)) ((s0 + 3) % 4)) 4 x0))), .val (.int (1 : Int32))] [(.int (1 : Int32))])) _
    refine XS.ifNo X443.here hx rfl (hb hby at_421) rfl ((if0 _ _).trans (feq (by decide)).1) ?_
    refine XS.aload X443.here hx rfl (hb hby at_424) rfl rfl ?_
    refine XS.aload X443.here hx rfl (hb hby at_426) rfl rfl ?_
    refine XS.iconst X443.here hx rfl (hb hby at_428) ?_
    refine XS.iconst X443.here hx rfl (hb hby at_429) ?_
    exact kz
  refine OG.step s445 ?_
  obtain ⟨_, _, ⟨T446, L446, k446, n446⟩, -, X446, ⟨Lc446, hQ446, l446, y446, z446⟩, st446⟩ := Jvm.LawKit.callS X443 hx (y := (⟨"com/example/tidegraph/tidegraph/amd64/LiveRangesFindPinLaw", "same", "([I[III)Z"⟩ : MethodName)) hown (mvT hZ (hw _ (List.mem_of_getElem? (i := 84) rfl))) (mvT hZ (hw _ (List.mem_of_getElem? (i := 85) rfl))) (mvT hZ (hw _ (List.mem_of_getElem? (i := 68) rfl))) (mvT hZ (hw _ (List.mem_of_getElem? (i := 86) rfl))) (by decide) (backOf (W := 0) (rm13 l Z a0 hw [] b34 b122 1 2 k34 k122 (own_rl (own_rl (own_rl [0, 1, 2, 3] c0 c1) c2 c3) c4 c5) ((((([0, 0, 0, 0]).set s0 (own_rt Pa2_216 4 s0)).set ((s0 + 1) % 4) (own_rt (own_fc Pa2_216 s0) 4 ((s0 + 1) % 4))).set ((s0 + 2) % 4) (own_rt (own_fc (own_fc Pa2_216 s0) ((s0 + 1) % 4)) 4 ((s0 + 2) % 4))).set ((s0 + 3) % 4) (own_rt (own_fc (own_fc (own_fc Pa2_216 s0) ((s0 + 1) % 4)) ((s0 + 2) % 4)) 4 ((s0 + 3) % 4))) T404.heap n0 (Nat.le_trans Z0 K404.1) f418 f420 hch.2.2.2.2.2.1 hch.2.2.2.2.2.2.1 (by decide) (by decide)) hZ (hw _ (List.mem_of_getElem? (i := 86) rfl)) (hw _ (List.mem_of_getElem? (i := 68) rfl)) (by decide) (by decide)) (g := (mkF m 430 #[.val (.int p0), .val (.int p1), .val (.int p2), .val (.int p3), .val (.int p4), .val (.ref b1), .val (.ref b15), .val (.ref b34), .val (.ref b122), .val (.int (Int32.ofNat c0)), .val (.int (Int32.ofNat c1)), .val (.int (Int32.ofNat c2)), .val (.int (Int32.ofNat c3)), .val (.int (Int32.ofNat c4)), .val (.int (Int32.ofNat c5)), .val (.int (Int32.ofNat s0)), .val (.int (Int32.ofNat s0)), .val (.int (Int32.ofNat ((s0 + 1) % 4))), .val (.int (Int32.ofNat ((s0 + 2) % 4))), .val (.int (Int32.ofNat ((s0 + 3) % 4))), .val (.int (Int32.ofNat x0)), .val (.int (Int32.ofNat (own_rt (own_fc (own_fc (own_fc (own_fc Pa2_216 s0) ((s0 + 1) % 4)) ((s0 + 2) % 4)) ((s0 + 3) % 4)) 4 x0))), .val (.int (1 : Int32))] [(.int (2 : Int32)), (.int (1 : Int32)), (.ref b122), (.ref b34)])) rfl (by rw [hml]; rfl) (argsL := [(.ref b34), (.ref b122), (.int (1 : Int32)), (.int (2 : Int32))]) (rest := []) (lenOf pd___I_III_Z rfl) rfl (by show 2 * 0 + _ ≤ _; exact Nat.le_of_eq rfl) (hb hby at_430) (fun _ _ => ⟨rfl, e443, (by decide : 14 + 0 ≤ _), (by decide : 45 + 0 ≤ _)⟩)
  dsimp only [Pt.U, Pt.locs, Pt.cells, Pt.slots] at X446 l446 y446 z446 st446 hQ446
  subst l446 y446 z446
  obtain ⟨rfl, N446q, e446⟩ := hQ446
  have N446 := Fr.app N443 N446q
  refine OG.step st446 ?_
  obtain ⟨Lz447, X446, N446⟩ : ∃ Lz, Stand p l e room_1 s m #[(.int p0), (.int p1), (.int p2), (.int p3), (.int p4)] below meth c T446 Lz 14 45 ∧ Fr n0 Lz := ⟨_, X446, N446⟩
  show OG _ _ _ _ _ _ _ (T446.setTop (mkF m 433 #[.val (.int p0), .val (.int p1), .val (.int p2), .val (.int p3), .val (.int p4), .val (.ref b1), .val (.ref b15), .val (.ref b34), .val (.ref b122), .val (.int (Int32.ofNat c0)), .val (.int (Int32.ofNat c1)), .val (.int (Int32.ofNat c2)), .val (.int (Int32.ofNat c3)), .val (.int (Int32.ofNat c4)), .val (.int (Int32.ofNat c5)), .val (.int (Int32.ofNat s0)), .val (.int (Int32.ofNat s0)), .val (.int (Int32.ofNat ((s0 + 1) % 4))), .val (.int (Int32.ofNat ((s0 + 2) % 4))), .val (.int (Int32.ofNat ((s0 + 3) % 4))), .val (.int (Int32.ofNat x0)), .val (.int (Int32.ofNat (own_rt (own_fc (own_fc (own_fc (own_fc Pa2_216 s0) ((s0 + 1) % 4)) ((s0 + 2) % 4)) ((s0 + 3) % 4)) 4 x0))), .val (.int (1 : Int32))] [(.int (bI ((own_g ((((([0, 0, 0, 0]).set s0 (own_rt Pa2_216 4 s0)).set ((s0 + 1) % 4) (own_rt (own_fc Pa2_216 s0) 4 ((s0 + 1) % 4))).set ((s0 + 2) % 4) (own_rt (own_fc (own_fc Pa2_216 s0) ((s0 + 1) % 4)) 4 ((s0 + 2) % 4))).set ((s0 + 3) % 4) (own_rt (own_fc (own_fc (own_fc Pa2_216 s0) ((s0 + 1) % 4)) ((s0 + 2) % 4)) 4 ((s0 + 3) % 4))) 1 = own_g ((((([0, 0, 0, 0]).set s0 (own_rt Pa2_216 4 s0)).set ((s0 + 1) % 4) (own_rt (own_fc Pa2_216 s0) 4 ((s0 + 1) % 4))).set ((s0 + 2) % 4) (own_rt (own_fc (own_fc Pa2_216 s0) ((s0 + 1) % 4)) 4 ((s0 + 2) % 4))).set ((s0 + 3) % 4) (own_rt (own_fc (own_fc (own_fc Pa2_216 s0) ((s0 + 1) % 4)) ((s0 + 2) % 4)) 4 ((s0 + 3) % 4))) 2) ↔ (own_g (own_rl (own_rl (own_rl [0, 1, 2, 3] c0 c1) c2 c3) c4 c5) 1 = own_g (own_rl (own_rl (own_rl [0, 1, 2, 3] c0 c1) c2 c3) c4 c5) 2))))]))
  have s448 : ∀ tz, Steps p.tables e below (T446.setTop (mkF m 454 #[.val (.int p0), .val (.int p1), .val (.int p2), .val (.int p3), .val (.int p4), .val (.ref b1), .val (.ref b15), .val (.ref b34), .val (.ref b122), .val (.int (Int32.ofNat c0)), .val (.int (Int32.ofNat c1)), .val (.int (Int32.ofNat c2)), .val (.int (Int32.ofNat c3)), .val (.int (Int32.ofNat c4)), .val (.int (Int32.ofNat c5)), .val (.int (Int32.ofNat s0)), .val (.int (Int32.ofNat s0)), .val (.int (Int32.ofNat ((s0 + 1) % 4))), .val (.int (Int32.ofNat ((s0 + 2) % 4))), .val (.int (Int32.ofNat ((s0 + 3) % 4))), .val (.int (Int32.ofNat x0)), .val (.int (Int32.ofNat (own_rt (own_fc (own_fc (own_fc (own_fc Pa2_216 s0) ((s0 + 1) % 4)) ((s0 + 2) % 4)) ((s0 + 3) % 4)) 4 x0))), .val (.int (1 : Int32))] [(.int (3 : Int32)), (.int (1 : Int32)), (.ref b122), (.ref b34)])) tz → Steps p.tables e below (T446.setTop (mkF m 433 #[.val (.int p0), .val (.int p1), .val (.int p2), .val (.int p3), .val (.int p4), .val (.ref b1), .val (.ref b15), .val (.ref b34), .val (.ref b122), .val (.int (Int32.ofNat c0)), .val (.int (Int32.ofNat c1)), .val (.int (Int32.ofNat c2)), .val (.int (Int32.ofNat c3)), .val (.int (Int32.ofNat c4)), .val (.int (Int32.ofNat c5)), .val (.int (Int32.ofNat s0)), .val (.int (Int32.ofNat s0)), .val (.int (Int32.ofNat ((s0 + 1) % 4))), .val (.int (Int32.ofNat ((s0 + 2) % 4))), .val (.int (Int32.ofNat ((s0 + 3) % 4))), .val (.int (Int32.ofNat x0)), .val (.int (Int32.ofNat (own_rt (own_fc (own_fc (own_fc (own_fc Pa2_216 s0) ((s0 + 1) % 4)) ((s0 + 2) % 4)) ((s0 + 3) % 4)) 4 x0))), .val (.int (1 : Int32))] [(.int (bI ((own_g ((((([0, 0, 0, 0]).set s0 (own_rt Pa2_216 4 s0)).set ((s0 + 1) % 4) (own_rt (own_fc Pa2_216 s0) 4 ((s0 + 1) % 4))).set ((s0 + 2) % 4) (own_rt (own_fc (own_fc Pa2_216 s0) ((s0 + 1) % 4)) 4 ((s0 + 2) % 4))).set ((s0 + 3) % 4) (own_rt (own_fc (own_fc (own_fc Pa2_216 s0) ((s0 + 1) % 4)) ((s0 + 2) % 4)) 4 ((s0 + 3) % 4))) 1 = own_g ((((([0, 0, 0, 0]).set s0 (own_rt Pa2_216 4 s0)).set ((s0 + 1) % 4) (own_rt (own_fc Pa2_216 s0) 4 ((s0 + 1) % 4))).set ((s0 + 2) % 4) (own_rt (own_fc (own_fc Pa2_216 s0) ((s0 + 1) % 4)) 4 ((s0 + 2) % 4))).set ((s0 + 3) % 4) (own_rt (own_fc (own_fc (own_fc Pa2_216 s0) ((s0 + 1) % 4)) ((s0 + 2) % 4)) 4 ((s0 + 3) % 4))) 2) ↔ (own_g (own_rl (own_rl (own_rl [0, 1, 2, 3] c0 c1) c2 c3) c4 c5) 1 = own_g (own_rl (own_rl (own_rl [0, 1, 2, 3] c0 c1) c2 c3) c4 c5) 2))))])) tz := by
    intro tz kz
    refine XS.ifNo X446.here hx rfl (hb hby at_433) rfl ((if0 _ _).trans (feq (bI_ne0 (hch.2.2.2.2.2.2.2.2.2 1 (by decide) 2 (by decide)))).1) ?_
    refine XS.iconst X446.here hx rfl (hb hby at_436) ?_
    refine XS.goto X446.here hx rfl (pc0 := 437) (pc' := 441) rfl (hb hby at_437) (by decide) (by decide) ?_
    refine XS.istore X446.here hx rfl (hb hby at_441) rfl (l' := #[.val (.int p0), .val (.int p1), .val (.int p2), .val (.int p3), .val (.int p4), .val (.ref b1), .val (.ref b15), .val (.ref b34), .val (.ref b122), .val (.int (Int32.ofNat c0)), .val (.int (Int32.ofNat c1)), .val (.int (Int32.ofNat c2)), .val (.int (Int32.ofNat c3)), .val (.int (Int32.ofNat c4)), .val (.int (Int32.ofNat c5)), .val (.int (Int32.ofNat s0)), .val (.int (Int32.ofNat s0)), .val (.int (Int32.ofNat ((s0 + 1) % 4))), .val (.int (Int32.ofNat ((s0 + 2) % 4))), .val (.int (Int32.ofNat ((s0 + 3) % 4))), .val (.int (Int32.ofNat x0)), .val (.int (Int32.ofNat (own_rt (own_fc (own_fc (own_fc (own_fc Pa2_216 s0) ((s0 + 1) % 4)) ((s0 + 2) % 4)) ((s0 + 3) % 4)) 4 x0))), .val (.int (1 : Int32))]) rfl ?_
    refine XS.iload X446.here hx rfl (hb hby at_443) rfl ?_
    show Steps p.tables e below (T446.setTop (mkF m 445 #[.val (.int p0), .val (.int p1), .val (.int p2), .val (.int p3), .val (.int p4), .val (.ref b1), .val (.ref b15), .val (.ref b34), .val (.ref b122), .val (.int (Int32.ofNat c0)), .val (.int (Int32.ofNat c1)), .val (.int (Int32.ofNat c2)), .val (.int (Int32.ofNat c3)), .val (.int (Int32.ofNat c4)), .val (.int (Int32.ofNat c5)), .val (.int (Int32.ofNat s0)), .val (.int (Int32.ofNat s0)), .val (.int (Int32.ofNat ((s0 + 1) % 4))), .val (.int (Int32.ofNat ((s0 + 2) % 4))), .val (.int (Int32.ofNat ((s0 + 3) % 4))), .val (.int (Int32.ofNat x0)), .val (.int (Int32.ofNat (own_rt (own_fc (own_fc (own_fc (own_fc Pa2_216 s0) ((s0 + 1) % 4)) ((s0 + 2) % 4)) ((s0 + 3) % 4)) 4 x0))), .val (.int (1 : Int32))] [(.int (1 : Int32))])) _
    refine XS.ifNo X446.here hx rfl (hb hby at_445) rfl ((if0 _ _).trans (feq (by decide)).1) ?_
    refine XS.aload X446.here hx rfl (hb hby at_448) rfl rfl ?_
    refine XS.aload X446.here hx rfl (hb hby at_450) rfl rfl ?_
    refine XS.iconst X446.here hx rfl (hb hby at_452) ?_
    refine XS.iconst X446.here hx rfl (hb hby at_453) ?_
    exact kz
  refine OG.step s448 ?_
  obtain ⟨_, _, ⟨T449, L449, k449, n449⟩, -, X449, ⟨Lc449, hQ449, l449, y449, z449⟩, st449⟩ := Jvm.LawKit.callS X446 hx (y := (⟨"com/example/tidegraph/tidegraph/amd64/LiveRangesFindPinLaw", "same", "([I[III)Z"⟩ : MethodName)) hown (mvT hZ (hw _ (List.mem_of_getElem? (i := 84) rfl))) (mvT hZ (hw _ (List.mem_of_getElem? (i := 85) rfl))) (mvT hZ (hw _ (List.mem_of_getElem? (i := 68) rfl))) (mvT hZ (hw _ (List.mem_of_getElem? (i := 86) rfl))) (by decide) (backOf (W := 0) (rm13 l Z a0 hw [] b34 b122 1 3 k34 k122 (own_rl (own_rl (own_rl [0, 1, 2, 3] c0 c1) c2 c3) c4 c5) ((((([0, 0, 0, 0]).set s0 (own_rt Pa2_216 4 s0)).set ((s0 + 1) % 4) (own_rt (own_fc Pa2_216 s0) 4 ((s0 + 1) % 4))).set ((s0 + 2) % 4) (own_rt (own_fc (own_fc Pa2_216 s0) ((s0 + 1) % 4)) 4 ((s0 + 2) % 4))).set ((s0 + 3) % 4) (own_rt (own_fc (own_fc (own_fc Pa2_216 s0) ((s0 + 1) % 4)) ((s0 + 2) % 4)) 4 ((s0 + 3) % 4))) T404.heap n0 (Nat.le_trans Z0 K404.1) f418 f420 hch.2.2.2.2.2.1 hch.2.2.2.2.2.2.1 (by decide) (by decide)) hZ (hw _ (List.mem_of_getElem? (i := 86) rfl)) (hw _ (List.mem_of_getElem? (i := 68) rfl)) (by decide) (by decide)) (g := (mkF m 454 #[.val (.int p0), .val (.int p1), .val (.int p2), .val (.int p3), .val (.int p4), .val (.ref b1), .val (.ref b15), .val (.ref b34), .val (.ref b122), .val (.int (Int32.ofNat c0)), .val (.int (Int32.ofNat c1)), .val (.int (Int32.ofNat c2)), .val (.int (Int32.ofNat c3)), .val (.int (Int32.ofNat c4)), .val (.int (Int32.ofNat c5)), .val (.int (Int32.ofNat s0)), .val (.int (Int32.ofNat s0)), .val (.int (Int32.ofNat ((s0 + 1) % 4))), .val (.int (Int32.ofNat ((s0 + 2) % 4))), .val (.int (Int32.ofNat ((s0 + 3) % 4))), .val (.int (Int32.ofNat x0)), .val (.int (Int32.ofNat (own_rt (own_fc (own_fc (own_fc (own_fc Pa2_216 s0) ((s0 + 1) % 4)) ((s0 + 2) % 4)) ((s0 + 3) % 4)) 4 x0))), .val (.int (1 : Int32))] [(.int (3 : Int32)), (.int (1 : Int32)), (.ref b122), (.ref b34)])) rfl (by rw [hml]; rfl) (argsL := [(.ref b34), (.ref b122), (.int (1 : Int32)), (.int (3 : Int32))]) (rest := []) (lenOf pd___I_III_Z rfl) rfl (by show 2 * 0 + _ ≤ _; exact Nat.le_of_eq rfl) (hb hby at_454) (fun _ _ => ⟨rfl, e446, (by decide : 14 + 0 ≤ _), (by decide : 45 + 0 ≤ _)⟩)
  dsimp only [Pt.U, Pt.locs, Pt.cells, Pt.slots] at X449 l449 y449 z449 st449 hQ449
  subst l449 y449 z449
  obtain ⟨rfl, N449q, e449⟩ := hQ449
  have N449 := Fr.app N446 N449q
  refine OG.step st449 ?_
  obtain ⟨Lz450, X449, N449⟩ : ∃ Lz, Stand p l e room_1 s m #[(.int p0), (.int p1), (.int p2), (.int p3), (.int p4)] below meth c T449 Lz 14 45 ∧ Fr n0 Lz := ⟨_, X449, N449⟩
  show OG _ _ _ _ _ _ _ (T449.setTop (mkF m 457 #[.val (.int p0), .val (.int p1), .val (.int p2), .val (.int p3), .val (.int p4), .val (.ref b1), .val (.ref b15), .val (.ref b34), .val (.ref b122), .val (.int (Int32.ofNat c0)), .val (.int (Int32.ofNat c1)), .val (.int (Int32.ofNat c2)), .val (.int (Int32.ofNat c3)), .val (.int (Int32.ofNat c4)), .val (.int (Int32.ofNat c5)), .val (.int (Int32.ofNat s0)), .val (.int (Int32.ofNat s0)), .val (.int (Int32.ofNat ((s0 + 1) % 4))), .val (.int (Int32.ofNat ((s0 + 2) % 4))), .val (.int (Int32.ofNat ((s0 + 3) % 4))), .val (.int (Int32.ofNat x0)), .val (.int (Int32.ofNat (own_rt (own_fc (own_fc (own_fc (own_fc Pa2_216 s0) ((s0 + 1) % 4)) ((s0 + 2) % 4)) ((s0 + 3) % 4)) 4 x0))), .val (.int (1 : Int32))] [(.int (bI ((own_g ((((([0, 0, 0, 0]).set s0 (own_rt Pa2_216 4 s0)).set ((s0 + 1) % 4) (own_rt (own_fc Pa2_216 s0) 4 ((s0 + 1) % 4))).set ((s0 + 2) % 4) (own_rt (own_fc (own_fc Pa2_216 s0) ((s0 + 1) % 4)) 4 ((s0 + 2) % 4))).set ((s0 + 3) % 4) (own_rt (own_fc (own_fc (own_fc Pa2_216 s0) ((s0 + 1) % 4)) ((s0 + 2) % 4)) 4 ((s0 + 3) % 4))) 1 = own_g ((((([0, 0, 0, 0]).set s0 (own_rt Pa2_216 4 s0)).set ((s0 + 1) % 4) (own_rt (own_fc Pa2_216 s0) 4 ((s0 + 1) % 4))).set ((s0 + 2) % 4) (own_rt (own_fc (own_fc Pa2_216 s0) ((s0 + 1) % 4)) 4 ((s0 + 2) % 4))).set ((s0 + 3) % 4) (own_rt (own_fc (own_fc (own_fc Pa2_216 s0) ((s0 + 1) % 4)) ((s0 + 2) % 4)) 4 ((s0 + 3) % 4))) 3) ↔ (own_g (own_rl (own_rl (own_rl [0, 1, 2, 3] c0 c1) c2 c3) c4 c5) 1 = own_g (own_rl (own_rl (own_rl [0, 1, 2, 3] c0 c1) c2 c3) c4 c5) 3))))]))
  have s451 : ∀ tz, Steps p.tables e below (T449.setTop (mkF m 478 #[.val (.int p0), .val (.int p1), .val (.int p2), .val (.int p3), .val (.int p4), .val (.ref b1), .val (.ref b15), .val (.ref b34), .val (.ref b122), .val (.int (Int32.ofNat c0)), .val (.int (Int32.ofNat c1)), .val (.int (Int32.ofNat c2)), .val (.int (Int32.ofNat c3)), .val (.int (Int32.ofNat c4)), .val (.int (Int32.ofNat c5)), .val (.int (Int32.ofNat s0)), .val (.int (Int32.ofNat s0)), .val (.int (Int32.ofNat ((s0 + 1) % 4))), .val (.int (Int32.ofNat ((s0 + 2) % 4))), .val (.int (Int32.ofNat ((s0 + 3) % 4))), .val (.int (Int32.ofNat x0)), .val (.int (Int32.ofNat (own_rt (own_fc (own_fc (own_fc (own_fc Pa2_216 s0) ((s0 + 1) % 4)) ((s0 + 2) % 4)) ((s0 + 3) % 4)) 4 x0))), .val (.int (1 : Int32))] [(.int (3 : Int32)), (.int (2 : Int32)), (.ref b122), (.ref b34)])) tz → Steps p.tables e below (T449.setTop (mkF m 457 #[.val (.int p0), .val (.int p1), .val (.int p2), .val (.int p3), .val (.int p4), .val (.ref b1), .val (.ref b15), .val (.ref b34), .val (.ref b122), .val (.int (Int32.ofNat c0)), .val (.int (Int32.ofNat c1)), .val (.int (Int32.ofNat c2)), .val (.int (Int32.ofNat c3)), .val (.int (Int32.ofNat c4)), .val (.int (Int32.ofNat c5)), .val (.int (Int32.ofNat s0)), .val (.int (Int32.ofNat s0)), .val (.int (Int32.ofNat ((s0 + 1) % 4))), .val (.int (Int32.ofNat ((s0 + 2) % 4))), .val (.int (Int32.ofNat ((s0 + 3) % 4))), .val (.int (Int32.ofNat x0)), .val (.int (Int32.ofNat (own_rt (own_fc (own_fc (own_fc (own_fc Pa2_216 s0) ((s0 + 1) % 4)) ((s0 + 2) % 4)) ((s0 + 3) % 4)) 4 x0))), .val (.int (1 : Int32))] [(.int (bI ((own_g ((((([0, 0, 0, 0]).set s0 (own_rt Pa2_216 4 s0)).set ((s0 + 1) % 4) (own_rt (own_fc Pa2_216 s0) 4 ((s0 + 1) % 4))).set ((s0 + 2) % 4) (own_rt (own_fc (own_fc Pa2_216 s0) ((s0 + 1) % 4)) 4 ((s0 + 2) % 4))).set ((s0 + 3) % 4) (own_rt (own_fc (own_fc (own_fc Pa2_216 s0) ((s0 + 1) % 4)) ((s0 + 2) % 4)) 4 ((s0 + 3) % 4))) 1 = own_g ((((([0, 0, 0, 0]).set s0 (own_rt Pa2_216 4 s0)).set ((s0 + 1) % 4) (own_rt (own_fc Pa2_216 s0) 4 ((s0 + 1) % 4))).set ((s0 + 2) % 4) (own_rt (own_fc (own_fc Pa2_216 s0) ((s0 + 1) % 4)) 4 ((s0 + 2) % 4))).set ((s0 + 3) % 4) (own_rt (own_fc (own_fc (own_fc Pa2_216 s0) ((s0 + 1) % 4)) ((s0 + 2) % 4)) 4 ((s0 + 3) % 4))) 3) ↔ (own_g (own_rl (own_rl (own_rl [0, 1, 2, 3] c0 c1) c2 c3) c4 c5) 1 = own_g (own_rl (own_rl (own_rl [0, 1, 2, 3] c0 c1) c2 c3) c4 c5) 3))))])) tz := by
    intro tz kz
    refine XS.ifNo X449.here hx rfl (hb hby at_457) rfl ((if0 _ _).trans (feq (bI_ne0 (hch.2.2.2.2.2.2.2.2.2 1 (by decide) 3 (by decide)))).1) ?_
    refine XS.iconst X449.here hx rfl (hb hby at_460) ?_
    refine XS.goto X449.here hx rfl (pc0 := 461) (pc' := 465) rfl (hb hby at_461) (by decide) (by decide) ?_
    refine XS.istore X449.here hx rfl (hb hby at_465) rfl (l' := #[.val (.int p0), .val (.int p1), .val (.int p2), .val (.int p3), .val (.int p4), .val (.ref b1), .val (.ref b15), .val (.ref b34), .val (.ref b122), .val (.int (Int32.ofNat c0)), .val (.int (Int32.ofNat c1)), .val (.int (Int32.ofNat c2)), .val (.int (Int32.ofNat c3)), .val (.int (Int32.ofNat c4)), .val (.int (Int32.ofNat c5)), .val (.int (Int32.ofNat s0)), .val (.int (Int32.ofNat s0)), .val (.int (Int32.ofNat ((s0 + 1) % 4))), .val (.int (Int32.ofNat ((s0 + 2) % 4))), .val (.int (Int32.ofNat ((s0 + 3) % 4))), .val (.int (Int32.ofNat x0)), .val (.int (Int32.ofNat (own_rt (own_fc (own_fc (own_fc (own_fc Pa2_216 s0) ((s0 + 1) % 4)) ((s0 + 2) % 4)) ((s0 + 3) % 4)) 4 x0))), .val (.int (1 : Int32))]) rfl ?_
    refine XS.iload X449.here hx rfl (hb hby at_467) rfl ?_
    show Steps p.tables e below (T449.setTop (mkF m 469 #[.val (.int p0), .val (.int p1), .val (.int p2), .val (.int p3), .val (.int p4), .val (.ref b1), .val (.ref b15), .val (.ref b34), .val (.ref b122), .val (.int (Int32.ofNat c0)), .val (.int (Int32.ofNat c1)), .val (.int (Int32.ofNat c2)), .val (.int (Int32.ofNat c3)), .val (.int (Int32.ofNat c4)), .val (.int (Int32.ofNat c5)), .val (.int (Int32.ofNat s0)), .val (.int (Int32.ofNat s0)), .val (.int (Int32.ofNat ((s0 + 1) % 4))), .val (.int (Int32.ofNat ((s0 + 2) % 4))), .val (.int (Int32.ofNat ((s0 + 3) % 4))), .val (.int (Int32.ofNat x0)), .val (.int (Int32.ofNat (own_rt (own_fc (own_fc (own_fc (own_fc Pa2_216 s0) ((s0 + 1) % 4)) ((s0 + 2) % 4)) ((s0 + 3) % 4)) 4 x0))), .val (.int (1 : Int32))] [(.int (1 : Int32))])) _
    refine XS.ifNo X449.here hx rfl (hb hby at_469) rfl ((if0 _ _).trans (feq (by decide)).1) ?_
    refine XS.aload X449.here hx rfl (hb hby at_472) rfl rfl ?_
    refine XS.aload X449.here hx rfl (hb hby at_474) rfl rfl ?_
    refine XS.iconst X449.here hx rfl (hb hby at_476) ?_
    refine XS.iconst X449.here hx rfl (hb hby at_477) ?_
    exact kz
  refine OG.step s451 ?_
  obtain ⟨_, _, ⟨T452, L452, k452, n452⟩, -, X452, ⟨Lc452, hQ452, l452, y452, z452⟩, st452⟩ := Jvm.LawKit.callS X449 hx (y := (⟨"com/example/tidegraph/tidegraph/amd64/LiveRangesFindPinLaw", "same", "([I[III)Z"⟩ : MethodName)) hown (mvT hZ (hw _ (List.mem_of_getElem? (i := 84) rfl))) (mvT hZ (hw _ (List.mem_of_getElem? (i := 85) rfl))) (mvT hZ (hw _ (List.mem_of_getElem? (i := 68) rfl))) (mvT hZ (hw _ (List.mem_of_getElem? (i := 86) rfl))) (by decide) (backOf (W := 0) (rm13 l Z a0 hw [] b34 b122 2 3 k34 k122 (own_rl (own_rl (own_rl [0, 1, 2, 3] c0 c1) c2 c3) c4 c5) ((((([0, 0, 0, 0]).set s0 (own_rt Pa2_216 4 s0)).set ((s0 + 1) % 4) (own_rt (own_fc Pa2_216 s0) 4 ((s0 + 1) % 4))).set ((s0 + 2) % 4) (own_rt (own_fc (own_fc Pa2_216 s0) ((s0 + 1) % 4)) 4 ((s0 + 2) % 4))).set ((s0 + 3) % 4) (own_rt (own_fc (own_fc (own_fc Pa2_216 s0) ((s0 + 1) % 4)) ((s0 + 2) % 4)) 4 ((s0 + 3) % 4))) T404.heap n0 (Nat.le_trans Z0 K404.1) f418 f420 hch.2.2.2.2.2.1 hch.2.2.2.2.2.2.1 (by decide) (by decide)) hZ (hw _ (List.mem_of_getElem? (i := 86) rfl)) (hw _ (List.mem_of_getElem? (i := 68) rfl)) (by decide) (by decide)) (g := (mkF m 478 #[.val (.int p0), .val (.int p1), .val (.int p2), .val (.int p3), .val (.int p4), .val (.ref b1), .val (.ref b15), .val (.ref b34), .val (.ref b122), .val (.int (Int32.ofNat c0)), .val (.int (Int32.ofNat c1)), .val (.int (Int32.ofNat c2)), .val (.int (Int32.ofNat c3)), .val (.int (Int32.ofNat c4)), .val (.int (Int32.ofNat c5)), .val (.int (Int32.ofNat s0)), .val (.int (Int32.ofNat s0)), .val (.int (Int32.ofNat ((s0 + 1) % 4))), .val (.int (Int32.ofNat ((s0 + 2) % 4))), .val (.int (Int32.ofNat ((s0 + 3) % 4))), .val (.int (Int32.ofNat x0)), .val (.int (Int32.ofNat (own_rt (own_fc (own_fc (own_fc (own_fc Pa2_216 s0) ((s0 + 1) % 4)) ((s0 + 2) % 4)) ((s0 + 3) % 4)) 4 x0))), .val (.int (1 : Int32))] [(.int (3 : Int32)), (.int (2 : Int32)), (.ref b122), (.ref b34)])) rfl (by rw [hml]; rfl) (argsL := [(.ref b34), (.ref b122), (.int (2 : Int32)), (.int (3 : Int32))]) (rest := []) (lenOf pd___I_III_Z rfl) rfl (by show 2 * 0 + _ ≤ _; exact Nat.le_of_eq rfl) (hb hby at_478) (fun _ _ => ⟨rfl, e449, (by decide : 14 + 0 ≤ _), (by decide : 45 + 0 ≤ _)⟩)
  dsimp only [Pt.U, Pt.locs, Pt.cells, Pt.slots] at X452 l452 y452 z452 st452 hQ452
  subst l452 y452 z452
  obtain ⟨rfl, N452q, e452⟩ := hQ452
  have N452 := Fr.app N449 N452q
  refine OG.step st452 ?_
  obtain ⟨Lz453, X452, N452⟩ : ∃ Lz, Stand p l e room_1 s m #[(.int p0), (.int p1), (.int p2), (.int p3), (.int p4)] below meth c T452 Lz 14 45 ∧ Fr n0 Lz := ⟨_, X452, N452⟩
  show OG _ _ _ _ _ _ _ (T452.setTop (mkF m 481 #[.val (.int p0), .val (.int p1), .val (.int p2), .val (.int p3), .val (.int p4), .val (.ref b1), .val (.ref b15), .val (.ref b34), .val (.ref b122), .val (.int (Int32.ofNat c0)), .val (.int (Int32.ofNat c1)), .val (.int (Int32.ofNat c2)), .val (.int (Int32.ofNat c3)), .val (.int (Int32.ofNat c4)), .val (.int (Int32.ofNat c5)), .val (.int (Int32.ofNat s0)), .val (.int (Int32.ofNat s0)), .val (.int (Int32.ofNat ((s0 + 1) % 4))), .val (.int (Int32.ofNat ((s0 + 2) % 4))), .val (.int (Int32.ofNat ((s0 + 3) % 4))), .val (.int (Int32.ofNat x0)), .val (.int (Int32.ofNat (own_rt (own_fc (own_fc (own_fc (own_fc Pa2_216 s0) ((s0 + 1) % 4)) ((s0 + 2) % 4)) ((s0 + 3) % 4)) 4 x0))), .val (.int (1 : Int32))] [(.int (bI ((own_g ((((([0, 0, 0, 0]).set s0 (own_rt Pa2_216 4 s0)).set ((s0 + 1) % 4) (own_rt (own_fc Pa2_216 s0) 4 ((s0 + 1) % 4))).set ((s0 + 2) % 4) (own_rt (own_fc (own_fc Pa2_216 s0) ((s0 + 1) % 4)) 4 ((s0 + 2) % 4))).set ((s0 + 3) % 4) (own_rt (own_fc (own_fc (own_fc Pa2_216 s0) ((s0 + 1) % 4)) ((s0 + 2) % 4)) 4 ((s0 + 3) % 4))) 2 = own_g ((((([0, 0, 0, 0]).set s0 (own_rt Pa2_216 4 s0)).set ((s0 + 1) % 4) (own_rt (own_fc Pa2_216 s0) 4 ((s0 + 1) % 4))).set ((s0 + 2) % 4) (own_rt (own_fc (own_fc Pa2_216 s0) ((s0 + 1) % 4)) 4 ((s0 + 2) % 4))).set ((s0 + 3) % 4) (own_rt (own_fc (own_fc (own_fc Pa2_216 s0) ((s0 + 1) % 4)) ((s0 + 2) % 4)) 4 ((s0 + 3) % 4))) 3) ↔ (own_g (own_rl (own_rl (own_rl [0, 1, 2, 3] c0 c1) c2 c3) c4 c5) 2 = own_g (own_rl (own_rl (own_rl [0, 1, 2, 3] c0 c1) c2 c3) c4 c5) 3))))]))
  have s454 : ∀ tz, Steps p.tables e below (T452.setTop (mkF m 493 #[.val (.int p0), .val (.int p1), .val (.int p2), .val (.int p3), .val (.int p4), .val (.ref b1), .val (.ref b15), .val (.ref b34), .val (.ref b122), .val (.int (Int32.ofNat c0)), .val (.int (Int32.ofNat c1)), .val (.int (Int32.ofNat c2)), .val (.int (Int32.ofNat c3)), .val (.int (Int32.ofNat c4)), .val (.int (Int32.ofNat c5)), .val (.int (Int32.ofNat s0)), .val (.int (Int32.ofNat s0)), .val (.int (Int32.ofNat ((s0 + 1) % 4))), .val (.int (Int32.ofNat ((s0 + 2) % 4))), .val (.int (Int32.ofNat ((s0 + 3) % 4))), .val (.int (Int32.ofNat x0)), .val (.int (Int32.ofNat (own_rt (own_fc (own_fc (own_fc (own_fc Pa2_216 s0) ((s0 + 1) % 4)) ((s0 + 2) % 4)) ((s0 + 3) % 4)) 4 x0))), .val (.int (1 : Int32))] [(.int (1 : Int32))])) tz → Steps p.tables e below (T452.setTop (mkF m 481 #[.val (.int p0), .val (.int p1), .val (.int p2), .val (.int p3), .val (.int p4), .val (.ref b1), .val (.ref b15), .val (.ref b34), .val (.ref b122), .val (.int (Int32.ofNat c0)), .val (.int (Int32.ofNat c1)), .val (.int (Int32.ofNat c2)), .val (.int (Int32.ofNat c3)), .val (.int (Int32.ofNat c4)), .val (.int (Int32.ofNat c5)), .val (.int (Int32.ofNat s0)), .val (.int (Int32.ofNat s0)), .val (.int (Int32.ofNat ((s0 + 1) % 4))), .val (.int (Int32.ofNat ((s0 + 2) % 4))), .val (.int (Int32.ofNat ((s0 + 3) % 4))), .val (.int (Int32.ofNat x0)), .val (.int (Int32.ofNat (own_rt (own_fc (own_fc (own_fc (own_fc Pa2_216 s0) ((s0 + 1) % 4)) ((s0 + 2) % 4)) ((s0 + 3) % 4)) 4 x0))), .val (.int (1 : Int32))] [(.int (bI ((own_g ((((([0, 0, 0, 0]).set s0 (own_rt Pa2_216 4 s0)).set ((s0 + 1) % 4) (own_rt (own_fc Pa2_216 s0) 4 ((s0 + 1) % 4))).set ((s0 + 2) % 4) (own_rt (own_fc (own_fc Pa2_216 s0) ((s0 + 1) % 4)) 4 ((s0 + 2) % 4))).set ((s0 + 3) % 4) (own_rt (own_fc (own_fc (own_fc Pa2_216 s0) ((s0 + 1) % 4)) ((s0 + 2) % 4)) 4 ((s0 + 3) % 4))) 2 = own_g ((((([0, 0, 0, 0]).set s0 (own_rt Pa2_216 4 s0)).set ((s0 + 1) % 4) (own_rt (own_fc Pa2_216 s0) 4 ((s0 + 1) % 4))).set ((s0 + 2) % 4) (own_rt (own_fc (own_fc Pa2_216 s0) ((s0 + 1) % 4)) 4 ((s0 + 2) % 4))).set ((s0 + 3) % 4) (own_rt (own_fc (own_fc (own_fc Pa2_216 s0) ((s0 + 1) % 4)) ((s0 + 2) % 4)) 4 ((s0 + 3) % 4))) 3) ↔ (own_g (own_rl (own_rl (own_rl [0, 1, 2, 3] c0 c1) c2 c3) c4 c5) 2 = own_g (own_rl (own_rl (own_rl [0, 1, 2, 3] c0 c1) c2 c3) c4 c5) 3))))])) tz := by
    intro tz kz
    refine XS.ifNo X452.here hx rfl (hb hby at_481) rfl ((if0 _ _).trans (feq (bI_ne0 (hch.2.2.2.2.2.2.2.2.2 2 (by decide) 3 (by decide)))).1) ?_
    refine XS.iconst X452.here hx rfl (hb hby at_484) ?_
    refine XS.goto X452.here hx rfl (pc0 := 485) (pc' := 489) rfl (hb hby at_485) (by decide) (by decide) ?_
    refine XS.istore X452.here hx rfl (hb hby at_489) rfl (l' := #[.val (.int p0), .val (.int p1), .val (.int p2), .val (.int p3), .val (.int p4), .val (.ref b1), .val (.ref b15), .val (.ref b34), .val (.ref b122), .val (.int (Int32.ofNat c0)), .val (.int (Int32.ofNat c1)), .val (.int (Int32.ofNat c2)), .val (.int (Int32.ofNat c3)), .val (.int (Int32.ofNat c4)), .val (.int (Int32.ofNat c5)), .val (.int (Int32.ofNat s0)), .val (.int (Int32.ofNat s0)), .val (.int (Int32.ofNat ((s0 + 1) % 4))), .val (.int (Int32.ofNat ((s0 + 2) % 4))), .val (.int (Int32.ofNat ((s0 + 3) % 4))), .val (.int (Int32.ofNat x0)), .val (.int (Int32.ofNat (own_rt (own_fc (own_fc (own_fc (own_fc Pa2_216 s0) ((s0 + 1) % 4)) ((s0 + 2) % 4)) ((s0 + 3) % 4)) 4 x0))), .val (.int (1 : Int32))]) rfl ?_
    refine XS.iload X452.here hx rfl (hb hby at_491) rfl ?_
    exact kz
  refine OG.step s454 ?_
  exact OG.retZ X452 hx hlk Bd.returns (hb hby at_493) (nar_1) e452 ⟨rfl, N452⟩ (by decide) (by decide)
set_option maxRecDepth 65536 in
set_option maxHeartbeats 40000000 in
theorem comes_1 {Post : Tables → Env → Array Value → State → Outcome → State → Prop} (hpost : ∀ tb e args s v u, (limb_1_1.after args s (.returned v) u = true ∧ limb_1_2.after args s (.returned v) u = true ∧ True) → FrameEnd s (.returned v) u (Jvm.fieldLocs frame_1_writes args s ++ Jvm.arrayLocs frame_1_arrays args s ++ Jvm.staticLocs frame_1_statics s) 40 192 → Post tb e args s (.returned v) u) :
    ArmFor flags0 classFile x code maxLocals ret World_1 tables_1 room_1 Calls_1 rest_1 Pre_1 Post := by
  intro l hfl _ _ p e ha hc hk s m args below hf hA hF happ hP
  obtain ⟨hcalls, hrest, hpre⟩ := hP
  obtain ⟨-, -, -, hnamed, -, -, -, hat⟩ := (Spec.applies_iff hf).mp happ
  obtain ⟨hg, hn⟩ := and_e (Cond.before_iff.mp (show (Jvm.Cond.and given_1 narrow_1).before args s = true from hpre))
  obtain ⟨hcount, hg0⟩ := and_e hg
  obtain ⟨ha0, hg1⟩ := and_e hg0
  obtain ⟨ha1, hg2⟩ := and_e hg1
  obtain ⟨ha2, hg3⟩ := and_e hg2
  obtain ⟨ha3, hg4⟩ := and_e hg3
  obtain ⟨w0, w1, w2, w3, w4, rfl⟩ : ∃ w0 w1 w2 w3 w4 : Value, args = #[w0, w1, w2, w3, w4] := by
    have hs : args.size = 5 := by simpa [Cond.value, given_1] using hcount
    obtain ⟨L⟩ := args
    match L, hs with
    | [w0, w1, w2, w3, w4], _ => exact ⟨w0, w1, w2, w3, w4, rfl⟩
  have hw := fun d (hd : d ∈ tables_1) => atoms_spec (ws := Jvm.Cond.code x code maxLocals ret :: tables_1) hat d (List.mem_cons_of_mem _ hd)
  obtain ⟨i0, ei0⟩ := is_v ha0
  obtain rfl : w0 = (.int i0) := Option.some.inj ei0
  obtain ⟨i1, ei1⟩ := is_v ha1
  obtain rfl : w1 = (.int i1) := Option.some.inj ei1
  obtain ⟨i2, ei2⟩ := is_v ha2
  obtain rfl : w2 = (.int i2) := Option.some.inj ei2
  obtain ⟨i3, ei3⟩ := is_v ha3
  obtain rfl : w3 = (.int i3) := Option.some.inj ei3
  obtain ⟨i4, ei4⟩ := is_v hg4
  obtain rfl : w4 = (.int i4) := Option.some.inj ei4
  obtain ⟨n, o, h1, h2, h3, _, L, rfl, ⟨rfl, N⟩, hq⟩ := rm0 l s _ hw tables_1 i0 i1 i2 i3 i4 s.heap s.heap.size (Nat.le_refl _) p e ha hc hk s m _ below hf ((Spec.applies_iff_loose hf).mp happ).1 ⟨rfl, State.Warmed39.refl s, rfl⟩ trivial
  refine ⟨n, _, h1, h2, h3, hpost _ _ _ _ _ _ ⟨Cond.after_iff.mpr rfl, Cond.after_iff.mpr (eq_i res_at (Term.int_eval (1)) rfl), trivial⟩ ⟨hq.1, hq.2.1, (hq.2.2.sift fun y hy => Or.inr (N y hy)).mono (by decide) (by decide)⟩⟩
theorem main_1_1 : Claimed_1_1 := comes_1 fun _ _ _ _ _ _ h hF => ⟨h.1, hF⟩
theorem main_1_2 : Claimed_1_2 := comes_1 fun _ _ _ _ _ _ h hF => ⟨h.2.1, hF⟩
end Jvm.Pilot.@@N@@
namespace Jvm.Pilot.@@N@@
open Jvm Jvm.ClassFile Sem Op Lib Jvm.Free Jvm.Stand Jvm.Pilot.@@N@@.Jvm.D
/-! MADE BY PROGRAM (witnessworld.py) out of the Statement's table words and the real class files: 15 classes; the members and pool entries that the words name. The judged class is class 1, her method 1. -/
namespace start1
open Jvm.ClassFile
def u (s : String) : CpInfo := .utf8 (stringToUtf16 s)
/-- a pool by its gaps: so many unusable entries, then the entry; so many at the end -/
def gap : Nat → List CpInfo → List CpInfo
  | 0, r => r
  | n + 1, r => .unusable :: gap n r
def poolList (es : List (Nat × CpInfo)) (last : Nat) : List CpInfo := es.foldr (fun e r => gap e.1 (e.2 :: r)) (gap last [])
def pool (es : List (Nat × CpInfo)) (last : Nat) : Array CpInfo := ⟨poolList es last⟩
def fileOf (pool : Array CpInfo) (this : Nat) (attrs : Array Attribute := #[]) (ms : Array MethodInfo := #[]) (fl : Nat := 33) (sup : Nat := 0) (ifs : Array Nat := #[]) (fds : Array FieldInfo := #[]) : ClassFile where
  minorVersion := 0
  majorVersion := 65
  constantPool := pool
  accessFlags := fl
  thisClass := this
  superClass := sup
  interfaces := ifs
  fields := fds
  methods := ms
  attributes := attrs
def plain (name : String) (sup : Option ClassId) : Class where
  name := name
  kind := .ordinary
  loader := none
  accessFlags := 33
  super := sup
  interfaces := #[]
  cf := none
  fields := #[]
  methods := #[]
  instanceTypes := #[]
  staticTypes := #[]
  resolved := #[]
  callSites := []
  init := .initialized
  statics := none
  mirror := none

def pool0 : Array CpInfo := pool [(5, u "<init>"), (0, u "()V"), (1, .class_ 10), (1, u "java/lang/Object"), (85, u "clone"), (0, u "()Ljava/lang/Object;")] 26

def k0c0 : Code := { maxStack := 0, maxLocals := 1, code := object_method_1_code, exceptionTable := #[], attributes := #[] }
def k0m0 : Method := { name := "<init>", desc := "()V", sig := { parameters := [], returnType := none }, accessFlags := 1, code := some k0c0 }
def k0m1 : Method := { name := "clone", desc := "()Ljava/lang/Object;", sig := { parameters := [], returnType := some (.object "java/lang/Object") }, accessFlags := 260, code := none }
/-- java/lang/Object -/
def k0 : Class := { plain "java/lang/Object" none with
  accessFlags := 33
  interfaces := #[]
  cf := some (fileOf pool0 8 #[] #[{ accessFlags := 1, nameIndex := 5, descriptorIndex := 6, attributes := #[] }, { accessFlags := 260, nameIndex := 96, descriptorIndex := 97, attributes := #[] }] 33 0 #[] #[])
  fields := #[]
  methods := #[k0m0, k0m1]
  instanceTypes := #[]
  staticTypes := #[]
  resolved := Array.replicate 124 none
  statics := none }

def pool1 : Array CpInfo := pool [(2, .class_ 4), (1, u "java/lang/Object"), (0, u "<init>"), (0, u "()V"), (0, .class_ 8), (0, u "com/example/tidegraph/tidegraph/amd64/InterferenceGraph"), (0, .methodref 7 10), (0, .nameAndType 5 11), (0, u "(I[JI)V"), (0, .class_ 13), (0, u "com/example/tidegraph/tidegraph/amd64/LiveRanges"), (0, .methodref 12 15), (0, .nameAndType 5 16), (0, u "(ILcom/example/tidegraph/tidegraph/amd64/InterferenceGraph;)V"), (0, .methodref 12 18), (0, .nameAndType 19 20), (0, u "join"), (0, u "(II)V"), (0, .methodref 22 23), (0, .class_ 24), (0, .nameAndType 25 26), (0, u "com/example/tidegraph/tidegraph/amd64/LiveRangesFindPinLaw"), (0, u "relabel"), (0, u "([III)V"), (0, .methodref 12 28), (0, .nameAndType 29 30), (0, u "find"), (0, u "(I)I"), (0, .methodref 22 32), (0, .nameAndType 33 34), (0, u "member"), (0, u "([I[II)Z"), (0, .methodref 22 36), (0, .nameAndType 37 38), (0, u "same"), (0, u "([I[III)Z"), (2, u "law"), (0, u "(IIIII)Z")] 5

def k1m0 : Method := { name := "<init>", desc := "()V", sig := { parameters := [], returnType := none }, accessFlags := 1, code := none }
def k1c1 : Code := { maxStack := 5, maxLocals := 23, code := code, exceptionTable := #[], attributes := #[] }
def k1m1 : Method := { name := "law", desc := "(IIIII)Z", sig := { parameters := [.int, .int, .int, .int, .int], returnType := some .boolean }, accessFlags := 9, code := some k1c1 }
def k1c2 : Code := { maxStack := 3, maxLocals := 5, code := method_3_code, exceptionTable := #[], attributes := #[] }
def k1m2 : Method := { name := "relabel", desc := "([III)V", sig := { parameters := [(.array .int), .int, .int], returnType := none }, accessFlags := 10, code := some k1c2 }
def k1c3 : Code := { maxStack := 3, maxLocals := 4, code := method_4_code, exceptionTable := #[], attributes := #[] }
def k1m3 : Method := { name := "member", desc := "([I[II)Z", sig := { parameters := [(.array .int), (.array .int), .int], returnType := some .boolean }, accessFlags := 10, code := some k1c3 }
def k1c4 : Code := { maxStack := 4, maxLocals := 4, code := method_5_code, exceptionTable := #[], attributes := #[] }
def k1m4 : Method := { name := "same", desc := "([I[III)Z", sig := { parameters := [(.array .int), (.array .int), .int, .int], returnType := some .boolean }, accessFlags := 10, code := some k1c4 }
/-- com/example/tidegraph/tidegraph/amd64/LiveRangesFindPinLaw -/
def k1 : Class := { plain "com/example/tidegraph/tidegraph/amd64/LiveRangesFindPinLaw" (some 0) with
  accessFlags := 49
  interfaces := #[]
  cf := some (fileOf pool1 22 #[] #[{ accessFlags := 1, nameIndex := 5, descriptorIndex := 6, attributes := #[] }, { accessFlags := 9, nameIndex := 41, descriptorIndex := 42, attributes := #[] }, { accessFlags := 10, nameIndex := 25, descriptorIndex := 26, attributes := #[] }, { accessFlags := 10, nameIndex := 33, descriptorIndex := 34, attributes := #[] }, { accessFlags := 10, nameIndex := 37, descriptorIndex := 38, attributes := #[] }] 49 2 #[] #[])
  fields := #[]
  methods := #[k1m0, k1m1, k1m2, k1m3, k1m4]
  instanceTypes := #[]
  staticTypes := #[]
  resolved := Array.replicate 48 none
  statics := none }

def pool2 : Array CpInfo := pool [(1, .methodref 2 3), (0, .class_ 4), (0, .nameAndType 5 6), (0, u "java/lang/Object"), (0, u "<init>"), (0, u "()V"), (0, .methodref 8 9), (0, .class_ 10), (0, .nameAndType 11 12), (0, u "java/util/Arrays"), (0, u "copyOf"), (0, u "([II)[I"), (0, .fieldref 14 15), (0, .class_ 16), (0, .nameAndType 17 18), (0, u "com/example/tidegraph/tidegraph/amd64/InterferenceGraph"), (0, u "starts"), (0, u "[I"), (0, .methodref 14 20), (0, .nameAndType 21 22), (0, u "keep"), (0, u "([IIII)I"), (0, .fieldref 14 24), (0, .nameAndType 25 18), (0, u "neighbours"), (6, u "end"), (0, u "(I)I"), (2, u "first"), (0, u "(I[JI)V")] 12

def k2c0 : Code := { maxStack := 6, maxLocals := 10, code := prog_25_method_1_code, exceptionTable := #[], attributes := #[] }
def k2m0 : Method := { name := "<init>", desc := "(I[JI)V", sig := { parameters := [.int, (.array .long), .int], returnType := none }, accessFlags := 0, code := some k2c0 }
def k2c1 : Code := { maxStack := 4, maxLocals := 6, code := prog_25_method_2_code, exceptionTable := #[], attributes := #[] }
def k2m1 : Method := { name := "keep", desc := "([IIII)I", sig := { parameters := [(.array .int), .int, .int, .int], returnType := some .int }, accessFlags := 10, code := some k2c1 }
def k2c2 : Code := { maxStack := 2, maxLocals := 2, code := prog_25_method_3_code, exceptionTable := #[], attributes := #[] }
def k2m2 : Method := { name := "first", desc := "(I)I", sig := { parameters := [.int], returnType := some .int }, accessFlags := 0, code := some k2c2 }
def k2c3 : Code := { maxStack := 3, maxLocals := 2, code := prog_25_method_4_code, exceptionTable := #[], attributes := #[] }
def k2m3 : Method := { name := "end", desc := "(I)I", sig := { parameters := [.int], returnType := some .int }, accessFlags := 0, code := some k2c3 }
/-- com/example/tidegraph/tidegraph/amd64/InterferenceGraph -/
def k2 : Class := { plain "com/example/tidegraph/tidegraph/amd64/InterferenceGraph" (some 0) with
  accessFlags := 48
  interfaces := #[]
  cf := some (fileOf pool2 14 #[] #[{ accessFlags := 0, nameIndex := 5, descriptorIndex := 37, attributes := #[] }, { accessFlags := 10, nameIndex := 21, descriptorIndex := 22, attributes := #[] }, { accessFlags := 0, nameIndex := 36, descriptorIndex := 33, attributes := #[] }, { accessFlags := 0, nameIndex := 32, descriptorIndex := 33, attributes := #[] }] 48 2 #[] #[{ accessFlags := 18, nameIndex := 17, descriptorIndex := 18, attributes := #[] }, { accessFlags := 18, nameIndex := 25, descriptorIndex := 18, attributes := #[] }])
  fields := #[{ name := "starts", type := (.array .int), accessFlags := 18, slot := 0, constantValue := 0 }, { name := "neighbours", type := (.array .int), accessFlags := 18, slot := 1, constantValue := 0 }]
  methods := #[k2m0, k2m1, k2m2, k2m3]
  instanceTypes := #[(.array .int), (.array .int)]
  staticTypes := #[]
  resolved := Array.replicate 50 none
  statics := none }

def pool3 : Array CpInfo := pool [(2, .class_ 4), (1, u "java/lang/Object"), (0, u "<init>"), (0, u "()V"), (7, .class_ 16), (1, u "java/util/Arrays"), (57, .class_ 76), (1, u "java/util/Arrays$NaturalOrder"), (32, u "()Ljava/lang/Object;"), (3, .class_ 115), (1, u "java/util/Arrays$LegacyMergeSort"), (1, u "Z"), (10, .nameAndType 129 109), (0, u "clone"), (20, .methodref 151 152), (0, .class_ 153), (0, .nameAndType 154 155), (0, u "java/lang/System"), (0, u "arraycopy"), (0, u "(Ljava/lang/Object;ILjava/lang/Object;II)V"), (146, u "copyOf"), (1, .methodref 305 306), (0, .class_ 307), (0, .nameAndType 308 309), (0, u "java/lang/Math"), (0, u "min"), (0, u "(II)I"), (6, .methodref 317 128), (0, .class_ 318), (0, u "[I"), (56, .class_ 376), (0, u "java/util/Arrays$ArrayList"), (68, u "$assertionsDisabled"), (269, u "MIN_ARRAY_SORT_GRAN"), (0, u "I"), (2, u "INSERTIONSORT_THRESHOLD"), (151, u "([II)[I"), (103, .class_ 976), (0, u "java/util/Arrays$ArrayItr")] 52

def k3m0 : Method := { name := "<init>", desc := "()V", sig := { parameters := [], returnType := none }, accessFlags := 2, code := none }
def k3c1 : Code := { maxStack := 6, maxLocals := 3, code := jdk_65_method_123_code, exceptionTable := #[], attributes := #[] }
def k3m1 : Method := { name := "copyOf", desc := "([II)[I", sig := { parameters := [(.array .int), .int], returnType := some (.array .int) }, accessFlags := 9, code := some k3c1 }
/-- java/util/Arrays -/
def k3 : Class := { plain "java/util/Arrays" (some 0) with
  accessFlags := 49
  interfaces := #[]
  cf := some (fileOf pool3 14 #[.nestMembers #[975, 375, 113, 74]] #[{ accessFlags := 2, nameIndex := 5, descriptorIndex := 6, attributes := #[] }, { accessFlags := 9, nameIndex := 302, descriptorIndex := 871, attributes := #[] }] 49 2 #[] #[{ accessFlags := 26, nameIndex := 715, descriptorIndex := 716, attributes := #[] }, { accessFlags := 26, nameIndex := 719, descriptorIndex := 716, attributes := #[] }, { accessFlags := 4120, nameIndex := 445, descriptorIndex := 117, attributes := #[] }])
  fields := #[{ name := "MIN_ARRAY_SORT_GRAN", type := .int, accessFlags := 26, slot := 0, constantValue := 0 }, { name := "INSERTIONSORT_THRESHOLD", type := .int, accessFlags := 26, slot := 1, constantValue := 0 }, { name := "$assertionsDisabled", type := .boolean, accessFlags := 4120, slot := 2, constantValue := 0 }]
  methods := #[k3m0, k3m1]
  instanceTypes := #[]
  staticTypes := #[.int, .int, .boolean]
  resolved := Array.replicate 1029 none
  statics := none }

def pool4 : Array CpInfo := pool [(1, .class_ 2), (0, u "java/lang/Math"), (1, .class_ 6), (1, u "java/lang/Object"), (0, u "<init>"), (0, u "()V"), (89, .class_ 100), (1, u "java/lang/Math$RandomNumberGeneratorHolder"), (71, u "negativeZeroFloatBits"), (0, u "J"), (2, u "negativeZeroDoubleBits"), (24, u "min"), (43, u "$assertionsDisabled"), (0, u "Z"), (88, u "(II)I"), (2, u "twoToTheDoubleScaleDown"), (0, u "D"), (4, u "twoToTheDoubleScaleUp"), (9, u "E"), (3, u "PI"), (2, u "TAU"), (2, u "DEGREES_TO_RADIANS"), (0, u "RADIANS_TO_DEGREES")] 94

def k4m0 : Method := { name := "<init>", desc := "()V", sig := { parameters := [], returnType := none }, accessFlags := 2, code := none }
def k4c1 : Code := { maxStack := 2, maxLocals := 2, code := jdk_29_method_69_code, exceptionTable := #[], attributes := #[] }
def k4m1 : Method := { name := "min", desc := "(II)I", sig := { parameters := [.int, .int], returnType := some .int }, accessFlags := 9, code := some k4c1 }
/-- java/lang/Math -/
def k4 : Class := { plain "java/lang/Math" (some 0) with
  accessFlags := 49
  interfaces := #[]
  cf := some (fileOf pool4 1 #[.nestMembers #[98]] #[{ accessFlags := 2, nameIndex := 7, descriptorIndex := 8, attributes := #[] }, { accessFlags := 9, nameIndex := 201, descriptorIndex := 335, attributes := #[] }] 49 4 #[] #[{ accessFlags := 25, nameIndex := 354, descriptorIndex := 339, attributes := #[] }, { accessFlags := 25, nameIndex := 358, descriptorIndex := 339, attributes := #[] }, { accessFlags := 25, nameIndex := 361, descriptorIndex := 339, attributes := #[] }, { accessFlags := 26, nameIndex := 364, descriptorIndex := 339, attributes := #[] }, { accessFlags := 26, nameIndex := 365, descriptorIndex := 339, attributes := #[] }, { accessFlags := 26, nameIndex := 172, descriptorIndex := 173, attributes := #[] }, { accessFlags := 26, nameIndex := 176, descriptorIndex := 173, attributes := #[] }, { accessFlags := 8, nameIndex := 344, descriptorIndex := 339, attributes := #[] }, { accessFlags := 8, nameIndex := 338, descriptorIndex := 339, attributes := #[] }, { accessFlags := 4120, nameIndex := 245, descriptorIndex := 246, attributes := #[] }])
  fields := #[{ name := "E", type := .double, accessFlags := 25, slot := 0, constantValue := 0 }, { name := "PI", type := .double, accessFlags := 25, slot := 1, constantValue := 0 }, { name := "TAU", type := .double, accessFlags := 25, slot := 2, constantValue := 0 }, { name := "DEGREES_TO_RADIANS", type := .double, accessFlags := 26, slot := 3, constantValue := 0 }, { name := "RADIANS_TO_DEGREES", type := .double, accessFlags := 26, slot := 4, constantValue := 0 }, { name := "negativeZeroFloatBits", type := .long, accessFlags := 26, slot := 5, constantValue := 0 }, { name := "negativeZeroDoubleBits", type := .long, accessFlags := 26, slot := 6, constantValue := 0 }, { name := "twoToTheDoubleScaleUp", type := .double, accessFlags := 8, slot := 7, constantValue := 0 }, { name := "twoToTheDoubleScaleDown", type := .double, accessFlags := 8, slot := 8, constantValue := 0 }, { name := "$assertionsDisabled", type := .boolean, accessFlags := 4120, slot := 9, constantValue := 0 }]
  methods := #[k4m0, k4m1]
  instanceTypes := #[]
  staticTypes := #[.double, .double, .double, .double, .double, .long, .long, .double, .double, .boolean]
  resolved := Array.replicate 460 none
  statics := none }

def pool5 : Array CpInfo := pool [(2, .class_ 4), (1, u "java/lang/Object"), (0, u "<init>"), (0, u "()V"), (1, .class_ 10), (1, u "java/lang/System"), (0, u "allowSecurityManager"), (0, u "I"), (16, u "cons"), (0, u "Ljava/io/Console;"), (77, .class_ 110), (1, u "java/lang/System$CallersHolder"), (43, u "initialErrStream"), (0, u "Ljava/io/PrintStream;"), (19, u "security"), (0, u "Ljava/lang/SecurityManager;"), (31, .class_ 209), (0, u "java/lang/System$1"), (7, u "props"), (0, u "Ljava/util/Properties;"), (2, u "lineSeparator"), (0, u "Ljava/lang/String;"), (96, .class_ 321), (1, u "java/lang/System$LoggerFinder"), (5, .class_ 328), (0, u "java/lang/System$Logger"), (67, u "err"), (2, u "out"), (91, u "notSupportedJnuEncoding"), (15, u "in"), (17, u "initialIn"), (0, u "Ljava/io/InputStream;"), (35, u "bootLayer"), (0, u "Ljava/lang/ModuleLayer;"), (99, .class_ 664), (0, u "java/lang/System$2"), (9, u "NEVER"), (2, u "MAYBE"), (49, u "arraycopy"), (0, u "(Ljava/lang/Object;ILjava/lang/Object;II)V"), (72, .class_ 802), (0, u "java/lang/System$Logger$Level")] 31

def k5m0 : Method := { name := "<init>", desc := "()V", sig := { parameters := [], returnType := none }, accessFlags := 2, code := none }
def k5m1 : Method := { name := "arraycopy", desc := "(Ljava/lang/Object;ILjava/lang/Object;II)V", sig := { parameters := [(.object "java/lang/Object"), .int, (.object "java/lang/Object"), .int, .int], returnType := none }, accessFlags := 265, code := none }
/-- java/lang/System -/
def k5 : Class := { plain "java/lang/System" (some 0) with
  accessFlags := 49
  interfaces := #[]
  cf := some (fileOf pool5 8 #[.nestMembers #[319, 327, 801, 108, 663, 208]] #[{ accessFlags := 2, nameIndex := 5, descriptorIndex := 6, attributes := #[] }, { accessFlags := 265, nameIndex := 727, descriptorIndex := 728, attributes := #[] }] 49 2 #[] #[{ accessFlags := 25, nameIndex := 507, descriptorIndex := 526, attributes := #[] }, { accessFlags := 25, nameIndex := 399, descriptorIndex := 155, attributes := #[] }, { accessFlags := 25, nameIndex := 396, descriptorIndex := 155, attributes := #[] }, { accessFlags := 10, nameIndex := 525, descriptorIndex := 526, attributes := #[] }, { accessFlags := 26, nameIndex := 674, descriptorIndex := 12, attributes := #[] }, { accessFlags := 26, nameIndex := 677, descriptorIndex := 12, attributes := #[] }, { accessFlags := 10, nameIndex := 11, descriptorIndex := 12, attributes := #[] }, { accessFlags := 74, nameIndex := 175, descriptorIndex := 176, attributes := #[] }, { accessFlags := 10, nameIndex := 491, descriptorIndex := 222, attributes := #[] }, { accessFlags := 74, nameIndex := 29, descriptorIndex := 30, attributes := #[] }, { accessFlags := 74, nameIndex := 154, descriptorIndex := 155, attributes := #[] }, { accessFlags := 10, nameIndex := 217, descriptorIndex := 218, attributes := #[] }, { accessFlags := 10, nameIndex := 221, descriptorIndex := 222, attributes := #[] }, { accessFlags := 8, nameIndex := 562, descriptorIndex := 563, attributes := #[] }])
  fields := #[{ name := "in", type := (.object "java/io/InputStream"), accessFlags := 25, slot := 0, constantValue := 0 }, { name := "out", type := (.object "java/io/PrintStream"), accessFlags := 25, slot := 1, constantValue := 0 }, { name := "err", type := (.object "java/io/PrintStream"), accessFlags := 25, slot := 2, constantValue := 0 }, { name := "initialIn", type := (.object "java/io/InputStream"), accessFlags := 10, slot := 3, constantValue := 0 }, { name := "NEVER", type := .int, accessFlags := 26, slot := 4, constantValue := 0 }, { name := "MAYBE", type := .int, accessFlags := 26, slot := 5, constantValue := 0 }, { name := "allowSecurityManager", type := .int, accessFlags := 10, slot := 6, constantValue := 0 }, { name := "security", type := (.object "java/lang/SecurityManager"), accessFlags := 74, slot := 7, constantValue := 0 }, { name := "notSupportedJnuEncoding", type := (.object "java/lang/String"), accessFlags := 10, slot := 8, constantValue := 0 }, { name := "cons", type := (.object "java/io/Console"), accessFlags := 74, slot := 9, constantValue := 0 }, { name := "initialErrStream", type := (.object "java/io/PrintStream"), accessFlags := 74, slot := 10, constantValue := 0 }, { name := "props", type := (.object "java/util/Properties"), accessFlags := 10, slot := 11, constantValue := 0 }, { name := "lineSeparator", type := (.object "java/lang/String"), accessFlags := 10, slot := 12, constantValue := 0 }, { name := "bootLayer", type := (.object "java/lang/ModuleLayer"), accessFlags := 8, slot := 13, constantValue := 0 }]
  methods := #[k5m0, k5m1]
  instanceTypes := #[]
  staticTypes := #[(.object "java/io/InputStream"), (.object "java/io/PrintStream"), (.object "java/io/PrintStream"), (.object "java/io/InputStream"), .int, .int, .int, (.object "java/lang/SecurityManager"), (.object "java/lang/String"), (.object "java/io/Console"), (.object "java/io/PrintStream"), (.object "java/util/Properties"), (.object "java/lang/String"), (.object "java/lang/ModuleLayer")]
  resolved := Array.replicate 834 none
  statics := none }

def pool6 : Array CpInfo := pool [(1, .class_ 2), (0, u "java/lang/Cloneable"), (0, .class_ 4), (0, u "java/lang/Object")] 2

/-- java/lang/Cloneable -/
def k6 : Class := { plain "java/lang/Cloneable" (some 0) with
  accessFlags := 1537
  interfaces := #[]
  cf := some (fileOf pool6 1 #[] #[] 1537 3 #[] #[])
  fields := #[]
  methods := #[]
  instanceTypes := #[]
  staticTypes := #[]
  resolved := Array.replicate 7 none
  statics := none }

def pool7 : Array CpInfo := pool [(1, .methodref 2 3), (0, .class_ 4), (0, .nameAndType 5 6), (0, u "java/lang/Object"), (0, u "<init>"), (0, u "()V"), (0, .fieldref 8 9), (0, .class_ 10), (0, .nameAndType 11 12), (0, u "com/example/tidegraph/tidegraph/amd64/LiveRanges"), (0, u "values"), (0, u "Lcom/example/tidegraph/tidegraph/amd64/InterferenceGraph;"), (0, .fieldref 8 14), (0, .nameAndType 15 16), (0, u "parent"), (0, u "[I"), (0, .fieldref 8 18), (0, .nameAndType 19 16), (0, u "size"), (0, .fieldref 8 21), (0, .nameAndType 22 16), (0, u "next"), (0, .fieldref 8 24), (0, .nameAndType 25 16), (0, u "last"), (0, .methodref 8 27), (0, .nameAndType 28 29), (0, u "find"), (0, u "(I)I"), (0, .methodref 31 32), (0, .class_ 33), (0, .nameAndType 34 29), (0, u "com/example/tidegraph/tidegraph/amd64/InterferenceGraph"), (0, u "first"), (0, .methodref 31 36), (0, .nameAndType 37 29), (0, u "end"), (19, u "(ILcom/example/tidegraph/tidegraph/amd64/InterferenceGraph;)V"), (3, u "join"), (0, u "(II)V")] 6

def k7c0 : Code := { maxStack := 3, maxLocals := 4, code := prog_28_method_1_code, exceptionTable := #[], attributes := #[] }
def k7m0 : Method := { name := "<init>", desc := "(ILcom/example/tidegraph/tidegraph/amd64/InterferenceGraph;)V", sig := { parameters := [.int, (.object "com/example/tidegraph/tidegraph/amd64/InterferenceGraph")], returnType := none }, accessFlags := 0, code := some k7c0 }
def k7c1 : Code := { maxStack := 3, maxLocals := 5, code := prog_28_method_3_code, exceptionTable := #[], attributes := #[] }
def k7m1 : Method := { name := "find", desc := "(I)I", sig := { parameters := [.int], returnType := some .int }, accessFlags := 0, code := some k7c1 }
def k7c2 : Code := { maxStack := 5, maxLocals := 9, code := prog_28_method_4_code, exceptionTable := #[], attributes := #[] }
def k7m2 : Method := { name := "join", desc := "(II)V", sig := { parameters := [.int, .int], returnType := none }, accessFlags := 0, code := some k7c2 }
/-- com/example/tidegraph/tidegraph/amd64/LiveRanges -/
def k7 : Class := { plain "com/example/tidegraph/tidegraph/amd64/LiveRanges" (some 0) with
  accessFlags := 48
  interfaces := #[]
  cf := some (fileOf pool7 8 #[] #[{ accessFlags := 0, nameIndex := 5, descriptorIndex := 57, attributes := #[] }, { accessFlags := 0, nameIndex := 28, descriptorIndex := 29, attributes := #[] }, { accessFlags := 0, nameIndex := 61, descriptorIndex := 62, attributes := #[] }] 48 2 #[] #[{ accessFlags := 18, nameIndex := 11, descriptorIndex := 12, attributes := #[] }, { accessFlags := 18, nameIndex := 15, descriptorIndex := 16, attributes := #[] }, { accessFlags := 18, nameIndex := 19, descriptorIndex := 16, attributes := #[] }, { accessFlags := 18, nameIndex := 22, descriptorIndex := 16, attributes := #[] }, { accessFlags := 18, nameIndex := 25, descriptorIndex := 16, attributes := #[] }])
  fields := #[{ name := "values", type := (.object "com/example/tidegraph/tidegraph/amd64/InterferenceGraph"), accessFlags := 18, slot := 0, constantValue := 0 }, { name := "parent", type := (.array .int), accessFlags := 18, slot := 1, constantValue := 0 }, { name := "size", type := (.array .int), accessFlags := 18, slot := 2, constantValue := 0 }, { name := "next", type := (.array .int), accessFlags := 18, slot := 3, constantValue := 0 }, { name := "last", type := (.array .int), accessFlags := 18, slot := 4, constantValue := 0 }]
  methods := #[k7m0, k7m1, k7m2]
  instanceTypes := #[(.object "com/example/tidegraph/tidegraph/amd64/InterferenceGraph"), (.array .int), (.array .int), (.array .int), (.array .int)]
  staticTypes := #[]
  resolved := Array.replicate 69 none
  statics := none }

def pool8 : Array CpInfo := pool [(1, u "java/io/Serializable"), (0, .class_ 1), (0, u "java/lang/Object"), (0, .class_ 3)] 3

/-- java/io/Serializable -/
def k8 : Class := { plain "java/io/Serializable" (some 0) with
  accessFlags := 1537
  interfaces := #[]
  cf := some (fileOf pool8 2 #[] #[] 1537 4 #[] #[])
  fields := #[]
  methods := #[]
  instanceTypes := #[]
  staticTypes := #[]
  resolved := Array.replicate 8 none
  statics := none }

/-- the primitive byte -/
def k9 : Class := { plain "byte" none with kind := .primitive 'B', accessFlags := 0x411 }
/-- [B -/
def k10 : Class := { plain "[B" (some 0) with kind := .array 9 .byte, interfaces := #[6, 8], accessFlags := 1041 }

/-- the primitive int -/
def k11 : Class := { plain "int" none with kind := .primitive 'I', accessFlags := 0x411 }
/-- [I -/
def k12 : Class := { plain "[I" (some 0) with kind := .array 11 .int, interfaces := #[6, 8], accessFlags := 1041 }

/-- the primitive long -/
def k13 : Class := { plain "long" none with kind := .primitive 'J', accessFlags := 0x411 }
/-- [J -/
def k14 : Class := { plain "[J" (some 0) with kind := .array 13 .long, interfaces := #[6, 8], accessFlags := 1041 }

def heap : Heap := #[]
def classes : Array Class := #[k0, k1, k2, k3, k4, k5, k6, k7, k8, k9, k10, k11, k12, k13, k14]
def interned : List (Array UInt16 × Addr) := []
def slotsUsed : Nat := 0
def theMethod : MethodId := ⟨1, 1⟩
def args0 : Array Value := #[.int 1, .int 9, .int 3, .int 4, .int 1]
def aboutOver (below : List Frame) : State where
  vm := { classes := classes, interned := interned.toArray }
  heap := heap
  slotsUsed := slotsUsed
  threads := #[{ frames := .invoking theMethod args0 :: below }]
def below0 : List Frame := [.native { method := ⟨0, 0⟩, args := #[] }]
def about1 : State := aboutOver below0
def p0 : Program := .bare "" "" ""
def e0 : Env := launch0.env 0 0 0
theorem w_frames : about1.frames = Frame.invoking theMethod args0 :: below0 := rfl
set_option maxRecDepth 65536 in
theorem w_args : argsFit about1.vm theMethod args0 = true := by decide +kernel
set_option maxRecDepth 65536 in
theorem w_heap : heapFits about1 = true := by decide +kernel
set_option maxRecDepth 65536 in
theorem w_runnable : about1.curStatus? = some .runnable := by decide +kernel
set_option maxRecDepth 65536 in
theorem w_alone : about1.alone = true := by decide +kernel
set_option maxRecDepth 65536 in
theorem w_named : about1.methodNamed? x = some theMethod := by decide +kernel
set_option maxRecDepth 65536 in
theorem w_hears : about1.hears theMethod below0 = true := by decide +kernel
set_option maxRecDepth 65536 in
theorem w_ripe : about1.ripe theMethod args0 below0 = true := by decide +kernel
theorem w_running : about1.status = .running := rfl
set_option maxRecDepth 65536 in
theorem w_room : about1.hasRoom e0.platform room_1 = true :=
  launch0.hasRoom_least _ room_1 (by decide +kernel) (by decide +kernel) (by decide +kernel) (by decide +kernel) (by decide +kernel) (by decide +kernel)
theorem allAtoms_all (ts : List Jvm.Cond) (a : Array Jvm.Value) (st : Jvm.State) : (allAtoms ts).before a st = ts.all (fun c => c.before a st) := by
  induction ts with
  | nil => rfl
  | cons c t ih =>
    show (Jvm.Cond.and c (allAtoms t)).before a st = _
    rw [Jvm.Cond.before_and, ih, List.all_cons]
def words1 : List Jvm.Cond := Jvm.Cond.code x code maxLocals ret :: tables_1
/-- a 'code' word, met by the world's own term for the bytes: nothing is compared byte by byte -/
theorem code_word {y : MethodName} {bytes : ByteArray} {mx : Nat} {rt : Option FieldType} {a : Array Value} {s : State} {m : MethodId} {meth : Method} {c : Code} (h1 : s.methodNamed? y = some m) (h2 : s.vm.method? m = some meth) (h3 : meth.code = some c) (h4 : c.code = bytes)
    (h5 : (c.maxLocals == mx && c.exceptionTable.isEmpty && decide (c.maxStack ≤ mostOperands) && decide (meth.sig.returnType = rt) && !meth.locks && decide (parseMethodDescriptor y.desc = some meth.sig)) = true) : (Jvm.Cond.code y bytes mx rt).before a s = true := by
  simp only [Bool.and_eq_true, beq_iff_eq, Bool.not_eq_true', decide_eq_true_eq] at h5
  obtain ⟨⟨⟨⟨⟨g1, g2⟩, g3⟩, g4⟩, g5⟩, g6⟩ := h5
  simp [Cond.before, Cond.holds, Cond.value, h1, h2, h3, h4, g1, g2, g3, g4, g5, g6]
def isCode : Jvm.Cond → Bool
  | .code _ _ _ _ => true
  | _ => false
theorem all_split {L : List Jvm.Cond} {P : Jvm.Cond → Bool} (h1 : L.all (fun c => isCode c || P c) = true) (h2 : ∀ c ∈ L.filter isCode, P c = true) : L.all P = true := by
  refine List.all_eq_true.mpr fun c hc => ?_
  have h := List.all_eq_true.mp h1 c hc
  rcases Bool.eq_false_or_eq_true (isCode c) with hi | hi
  · exact h2 c (List.mem_filter.mpr ⟨hc, hi⟩)
  · simpa [hi] using h
set_option maxRecDepth 65536 in
theorem w_c0 : (Jvm.Cond.code x code maxLocals ret).before args0 about1 = true := code_word (m := ⟨1, 1⟩) (meth := k1m1) (c := k1c1) (by decide +kernel) rfl rfl rfl (by decide +kernel)
set_option maxRecDepth 65536 in
theorem w_c1 : (Jvm.Cond.code ({ cls := "com/example/tidegraph/tidegraph/amd64/InterferenceGraph", name := "<init>", desc := "(I[JI)V" } : Jvm.MethodName) prog_25_method_1_code (10 : Nat) (Option.none : Option Jvm.ClassFile.FieldType)).before args0 about1 = true := code_word (m := ⟨2, 0⟩) (meth := k2m0) (c := k2c0) (by decide +kernel) rfl rfl rfl (by decide +kernel)
set_option maxRecDepth 65536 in
theorem w_c2 : (Jvm.Cond.code ({ cls := "java/lang/Object", name := "<init>", desc := "()V" } : Jvm.MethodName) object_method_1_code (1 : Nat) (Option.none : Option Jvm.ClassFile.FieldType)).before args0 about1 = true := code_word (m := ⟨0, 0⟩) (meth := k0m0) (c := k0c0) (by decide +kernel) rfl rfl rfl (by decide +kernel)
set_option maxRecDepth 65536 in
theorem w_c3 : (Jvm.Cond.code ({ cls := "java/util/Arrays", name := "copyOf", desc := "([II)[I" } : Jvm.MethodName) jdk_65_method_123_code (3 : Nat) (Option.some (Jvm.ClassFile.FieldType.array Jvm.ClassFile.FieldType.int))).before args0 about1 = true := code_word (m := ⟨3, 1⟩) (meth := k3m1) (c := k3c1) (by decide +kernel) rfl rfl rfl (by decide +kernel)
set_option maxRecDepth 65536 in
theorem w_c4 : (Jvm.Cond.code ({ cls := "java/lang/Math", name := "min", desc := "(II)I" } : Jvm.MethodName) jdk_29_method_69_code (2 : Nat) (Option.some Jvm.ClassFile.FieldType.int)).before args0 about1 = true := code_word (m := ⟨4, 1⟩) (meth := k4m1) (c := k4c1) (by decide +kernel) rfl rfl rfl (by decide +kernel)
set_option maxRecDepth 65536 in
theorem w_c5 : (Jvm.Cond.code ({ cls := "com/example/tidegraph/tidegraph/amd64/InterferenceGraph", name := "keep", desc := "([IIII)I" } : Jvm.MethodName) prog_25_method_2_code (6 : Nat) (Option.some Jvm.ClassFile.FieldType.int)).before args0 about1 = true := code_word (m := ⟨2, 1⟩) (meth := k2m1) (c := k2c1) (by decide +kernel) rfl rfl rfl (by decide +kernel)
set_option maxRecDepth 65536 in
theorem w_c6 : (Jvm.Cond.code ({ cls := "com/example/tidegraph/tidegraph/amd64/LiveRanges", name := "<init>", desc := "(ILcom/example/tidegraph/tidegraph/amd64/InterferenceGraph;)V" } : Jvm.MethodName) prog_28_method_1_code (4 : Nat) (Option.none : Option Jvm.ClassFile.FieldType)).before args0 about1 = true := code_word (m := ⟨7, 0⟩) (meth := k7m0) (c := k7c0) (by decide +kernel) rfl rfl rfl (by decide +kernel)
set_option maxRecDepth 65536 in
theorem w_c7 : (Jvm.Cond.code ({ cls := "com/example/tidegraph/tidegraph/amd64/LiveRanges", name := "join", desc := "(II)V" } : Jvm.MethodName) prog_28_method_4_code (9 : Nat) (Option.none : Option Jvm.ClassFile.FieldType)).before args0 about1 = true := code_word (m := ⟨7, 2⟩) (meth := k7m2) (c := k7c2) (by decide +kernel) rfl rfl rfl (by decide +kernel)
set_option maxRecDepth 65536 in
theorem w_c8 : (Jvm.Cond.code ({ cls := "com/example/tidegraph/tidegraph/amd64/LiveRanges", name := "find", desc := "(I)I" } : Jvm.MethodName) prog_28_method_3_code (5 : Nat) (Option.some Jvm.ClassFile.FieldType.int)).before args0 about1 = true := code_word (m := ⟨7, 1⟩) (meth := k7m1) (c := k7c1) (by decide +kernel) rfl rfl rfl (by decide +kernel)
set_option maxRecDepth 65536 in
theorem w_c9 : (Jvm.Cond.code ({ cls := "com/example/tidegraph/tidegraph/amd64/LiveRangesFindPinLaw", name := "relabel", desc := "([III)V" } : Jvm.MethodName) method_3_code (5 : Nat) (Option.none : Option Jvm.ClassFile.FieldType)).before args0 about1 = true := code_word (m := ⟨1, 2⟩) (meth := k1m2) (c := k1c2) (by decide +kernel) rfl rfl rfl (by decide +kernel)
set_option maxRecDepth 65536 in
theorem w_c10 : (Jvm.Cond.code ({ cls := "com/example/tidegraph/tidegraph/amd64/InterferenceGraph", name := "first", desc := "(I)I" } : Jvm.MethodName) prog_25_method_3_code (2 : Nat) (Option.some Jvm.ClassFile.FieldType.int)).before args0 about1 = true := code_word (m := ⟨2, 2⟩) (meth := k2m2) (c := k2c2) (by decide +kernel) rfl rfl rfl (by decide +kernel)
set_option maxRecDepth 65536 in
theorem w_c11 : (Jvm.Cond.code ({ cls := "com/example/tidegraph/tidegraph/amd64/InterferenceGraph", name := "end", desc := "(I)I" } : Jvm.MethodName) prog_25_method_4_code (2 : Nat) (Option.some Jvm.ClassFile.FieldType.int)).before args0 about1 = true := code_word (m := ⟨2, 3⟩) (meth := k2m3) (c := k2c3) (by decide +kernel) rfl rfl rfl (by decide +kernel)
set_option maxRecDepth 65536 in
theorem w_c12 : (Jvm.Cond.code ({ cls := "com/example/tidegraph/tidegraph/amd64/LiveRangesFindPinLaw", name := "member", desc := "([I[II)Z" } : Jvm.MethodName) method_4_code (4 : Nat) (Option.some Jvm.ClassFile.FieldType.boolean)).before args0 about1 = true := code_word (m := ⟨1, 3⟩) (meth := k1m3) (c := k1c3) (by decide +kernel) rfl rfl rfl (by decide +kernel)
set_option maxRecDepth 65536 in
theorem w_c13 : (Jvm.Cond.code ({ cls := "com/example/tidegraph/tidegraph/amd64/LiveRangesFindPinLaw", name := "same", desc := "([I[III)Z" } : Jvm.MethodName) method_5_code (4 : Nat) (Option.some Jvm.ClassFile.FieldType.boolean)).before args0 about1 = true := code_word (m := ⟨1, 4⟩) (meth := k1m4) (c := k1c4) (by decide +kernel) rfl rfl rfl (by decide +kernel)
def codes1 : List Jvm.Cond := [Jvm.Cond.code x code maxLocals ret, Jvm.Cond.code ({ cls := "com/example/tidegraph/tidegraph/amd64/InterferenceGraph", name := "<init>", desc := "(I[JI)V" } : Jvm.MethodName) prog_25_method_1_code (10 : Nat) (Option.none : Option Jvm.ClassFile.FieldType), Jvm.Cond.code ({ cls := "java/lang/Object", name := "<init>", desc := "()V" } : Jvm.MethodName) object_method_1_code (1 : Nat) (Option.none : Option Jvm.ClassFile.FieldType), Jvm.Cond.code ({ cls := "java/util/Arrays", name := "copyOf", desc := "([II)[I" } : Jvm.MethodName) jdk_65_method_123_code (3 : Nat) (Option.some (Jvm.ClassFile.FieldType.array Jvm.ClassFile.FieldType.int)), Jvm.Cond.code ({ cls := "java/lang/Math", name := "min", desc := "(II)I" } : Jvm.MethodName) jdk_29_method_69_code (2 : Nat) (Option.some Jvm.ClassFile.FieldType.int), Jvm.Cond.code ({ cls := "com/example/tidegraph/tidegraph/amd64/InterferenceGraph", name := "keep", desc := "([IIII)I" } : Jvm.MethodName) prog_25_method_2_code (6 : Nat) (Option.some Jvm.ClassFile.FieldType.int), Jvm.Cond.code ({ cls := "com/example/tidegraph/tidegraph/amd64/LiveRanges", name := "<init>", desc := "(ILcom/example/tidegraph/tidegraph/amd64/InterferenceGraph;)V" } : Jvm.MethodName) prog_28_method_1_code (4 : Nat) (Option.none : Option Jvm.ClassFile.FieldType), Jvm.Cond.code ({ cls := "com/example/tidegraph/tidegraph/amd64/LiveRanges", name := "join", desc := "(II)V" } : Jvm.MethodName) prog_28_method_4_code (9 : Nat) (Option.none : Option Jvm.ClassFile.FieldType), Jvm.Cond.code ({ cls := "com/example/tidegraph/tidegraph/amd64/LiveRanges", name := "find", desc := "(I)I" } : Jvm.MethodName) prog_28_method_3_code (5 : Nat) (Option.some Jvm.ClassFile.FieldType.int), Jvm.Cond.code ({ cls := "com/example/tidegraph/tidegraph/amd64/LiveRangesFindPinLaw", name := "relabel", desc := "([III)V" } : Jvm.MethodName) method_3_code (5 : Nat) (Option.none : Option Jvm.ClassFile.FieldType), Jvm.Cond.code ({ cls := "com/example/tidegraph/tidegraph/amd64/InterferenceGraph", name := "first", desc := "(I)I" } : Jvm.MethodName) prog_25_method_3_code (2 : Nat) (Option.some Jvm.ClassFile.FieldType.int), Jvm.Cond.code ({ cls := "com/example/tidegraph/tidegraph/amd64/InterferenceGraph", name := "end", desc := "(I)I" } : Jvm.MethodName) prog_25_method_4_code (2 : Nat) (Option.some Jvm.ClassFile.FieldType.int), Jvm.Cond.code ({ cls := "com/example/tidegraph/tidegraph/amd64/LiveRangesFindPinLaw", name := "member", desc := "([I[II)Z" } : Jvm.MethodName) method_4_code (4 : Nat) (Option.some Jvm.ClassFile.FieldType.boolean), Jvm.Cond.code ({ cls := "com/example/tidegraph/tidegraph/amd64/LiveRangesFindPinLaw", name := "same", desc := "([I[III)Z" } : Jvm.MethodName) method_5_code (4 : Nat) (Option.some Jvm.ClassFile.FieldType.boolean)]
set_option maxRecDepth 65536 in
theorem codes_eq : words1.filter isCode = codes1 := rfl
theorem w_codes : ∀ c ∈ words1.filter isCode, c.before args0 about1 = true := by
  rw [codes_eq]
  intro c hc
  simp only [codes1, List.mem_cons, List.not_mem_nil, or_false] at hc
  rcases hc with rfl | rfl | rfl | rfl | rfl | rfl | rfl | rfl | rfl | rfl | rfl | rfl | rfl | rfl
  · exact w_c0
  · exact w_c1
  · exact w_c2
  · exact w_c3
  · exact w_c4
  · exact w_c5
  · exact w_c6
  · exact w_c7
  · exact w_c8
  · exact w_c9
  · exact w_c10
  · exact w_c11
  · exact w_c12
  · exact w_c13
set_option maxRecDepth 65536 in
theorem w_t1 : (words1.take 24).all (fun c => isCode c || c.before args0 about1) = true := by decide +kernel
set_option maxRecDepth 65536 in
theorem w_t2 : ((words1.drop 24).take 24).all (fun c => isCode c || c.before args0 about1) = true := by decide +kernel
set_option maxRecDepth 65536 in
theorem w_t3 : (((words1.drop 24).drop 24).take 24).all (fun c => isCode c || c.before args0 about1) = true := by decide +kernel
set_option maxRecDepth 65536 in
theorem w_t4 : (((words1.drop 24).drop 24).drop 24).all (fun c => isCode c || c.before args0 about1) = true := by decide +kernel
theorem w_tables : (allAtoms (Jvm.Cond.code x code maxLocals ret :: tables_1)).before args0 about1 = true := by
  rw [allAtoms_all]
  show words1.all (fun c => c.before args0 about1) = true
  refine all_split ?_ w_codes
  rw [← List.take_append_drop 24 words1, List.all_append, w_t1, ← List.take_append_drop 24 (words1.drop 24), List.all_append, w_t2, ← List.take_append_drop 24 ((words1.drop 24).drop 24), List.all_append, w_t3, w_t4]
  rfl
set_option maxRecDepth 65536 in
theorem w_case : (Jvm.Cond.and given_1 narrow_1).before args0 about1 = true := by decide +kernel
theorem w_applies : (headSpec (Jvm.Cond.code x code maxLocals ret :: tables_1) room_1).applies x e0.platform about1 = true :=
  (Spec.applies_iff w_frames).mpr ⟨w_running, w_runnable, w_alone, w_named, w_hears, w_ripe, w_room, w_tables⟩
theorem atStart : AtStart classFile x code maxLocals ret World_1 tables_1 room_1 Calls_1 rest_1 Pre_1 launch0 p0 e0 about1 theMethod args0 below0 :=
  ⟨lists_1, trivial, launch0.admits_env _ _ _, launch0.least_env, fairChoices_fair.cas, fairChoices_fair.clock, w_frames, w_args, w_heap, w_applies, trivial, trivial, w_case⟩
end start1
theorem witness_1 : WitnessClaimed_1 := ⟨start1.p0, start1.e0, start1.about1, start1.theMethod, start1.args0, start1.below0, start1.atStart⟩
end Jvm.Pilot.@@N@@
