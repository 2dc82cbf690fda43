import JvmDerived
import JvmDerived.Pilot.@@N@@Statement
import JvmDerived.Pilot.@@N@@Code
set_option linter.unusedVariables false
set_option linter.unusedSimpArgs false
namespace Jvm.Pilot.@@N@@
open Jvm Jvm.ClassFile Sem Op Lib Jvm.Free Jvm.Stand Jvm.LawKit Jvm.RoadKit Bundle Jvm.Pilot.@@N@@.Jvm.D
section OwnKit
variable {p : Program} {l : Launch} {e : Env} {R : Room} {s : State} {m : MethodId} {args : Array Value} {below : List Frame} {meth : Method} {c : Code} {T : State} {locs : List Loc} {cells slots : Nat}
/-- from the state A the body runs to its end and leaves what Q says -/
def own_Go (p : Program) (e : Env) (below : List Frame) (s : State) (Q : Option Value → Heap → List Loc → Prop) (kc ks : Nat) (A : State) : Prop :=
  ∃ s₂ o, Steps p.tables e below A s₂ ∧ s₂.status = .running ∧ Ended s₂ below o ∧ ∃ v L, o = .returned v ∧ Q v s₂.heap L ∧ FrameEnd s o s₂ L kc ks
theorem own_go {Q : Option Value → Heap → List Loc → Prop} {kc ks : Nat} {A B : State} (h : ∀ t, Steps p.tables e below B t → Steps p.tables e below A t) (k : own_Go p e below s Q kc ks B) : own_Go p e below s Q kc ks A := by
  obtain ⟨s₂, o, h1, h2⟩ := k
  exact ⟨s₂, o, h _ h1, h2⟩
/-- from the state A the body runs to the frame g', the heap as it was -/
def own_Arm (p : Program) (l : Launch) (e : Env) (R : Room) (s : State) (m : MethodId) (args : Array Value) (below : List Frame) (meth : Method) (c : Code) (cells slots n0 : Nat) (h : Heap) (g' : JFrame) (A : State) : Prop :=
  ∃ (T' : State) (locs' : List Loc), Stand p l e R s m args below meth c T' locs' cells slots ∧ Fr n0 locs' ∧ T'.heap = h ∧ ∀ t, Steps p.tables e below (T'.setTop g') t → Steps p.tables e below A t
theorem own_arm {n0 : Nat} {h : Heap} {g' : JFrame} {A B : State} (k1 : ∀ t, Steps p.tables e below B t → Steps p.tables e below A t) (k : own_Arm p l e R s m args below meth c cells slots n0 h g' B) : own_Arm p l e R s m args below meth c cells slots n0 h g' A := by
  obtain ⟨T', locs', h1, h2, h3, h4⟩ := k
  exact ⟨T', locs', h1, h2, h3, fun t kt => k1 t (h4 t kt)⟩
theorem own_armEnd {n0 : Nat} {h : Heap} {g g' : JFrame} (X : Stand p l e R s m args below meth c T locs cells slots) (N : Fr n0 locs) (eT : T.heap = h) (q : g' = g) : own_Arm p l e R s m args below meth c cells slots n0 h g' (T.setTop g) :=
  ⟨T, locs, X, N, eT, fun t kt => q ▸ kt⟩
theorem own_mrg {n0 : Nat} {h : Heap} {g g' : JFrame} (X : Stand p l e R s m args below meth c T locs cells slots) (k : own_Arm p l e R s m args below meth c cells slots n0 h g' (T.setTop g)) :
    ∃ (T' : State) (locs' : List Loc), Stand p l e R s m args below meth c T' locs' cells slots ∧ Fr n0 locs' ∧ T'.heap = h ∧ ∀ t, Steps p.tables e below (T'.setTop g') t → Steps p.tables e below (T.setTop g) t := k
theorem own_leave {Q : Option Value → Heap → List Loc → Prop} {kc ks : Nat} {A : State} {v : Option Value} (X : Stand p l e R s m args below meth c T locs cells slots) (hv : meth.sig.returnType = none → v = none) (hlk : meth.locks = false)
    (hc : cells ≤ kc) (hs : slots ≤ ks) (hQ : Q v T.heap locs) (k : ∀ fs, (∀ (f : JFrame) (acts : List Action), f.method = m → f.locked = none → f.entered = [] → (doReturn e (T.setTop f) acts v).1 = T.setFrames fs) → Steps p.tables e below A (T.setFrames fs)) : own_Go p e below s Q kc ks A := by
  obtain ⟨fs, hr, hrun, hended, hW, hsame⟩ := X.leave (v := v) hv hlk
  exact ⟨_, _, k fs hr, hrun, hended, _, _, rfl, hQ, ⟨_, rfl⟩, hW, hsame.mono hc hs⟩
theorem own_retI {Q : Option Value → Heap → List Loc → Prop} {kc ks pc : Nat} {Ls : Array Slot} {z : Int32} {rest : List Value} (X : Stand p l e R s m args below meth c T locs cells slots) (hx : p.tables.exec = Jvm.exec) (hret : meth.sig.returnType = some .int) (hlk : meth.locks = false)
    (hd : decode c.code pc = .ok (.ireturn, 1)) (hc : cells ≤ kc) (hs : slots ≤ ks) (hQ : Q (some (.int z)) T.heap locs) : own_Go p e below s Q kc ks (T.setTop (mkF m pc Ls (.int z :: rest))) := by
  refine own_leave X (fun h => by rw [hret] at h; cases h) hlk hc hs hQ fun fs hl => ?_
  have hm' : T.vm.method? m = some meth := X.method'
  have hn : narrow .int (.int z) = .int z := rfl
  show Steps p.tables e below (T.setTop { method := m, pc := pc, locals := Ls, stack := _ :: rest, locked := none }) _
  jvm_step X.here [X.here.top, hx, hd, hm', hret, hn]
  first | (intro acts; rw [hl _ acts rfl rfl rfl]) | rw [hl _ _ rfl rfl rfl]
  exact Steps.refl _
theorem own_retN {Q : Option Value → Heap → List Loc → Prop} {kc ks pc : Nat} {Ls : Array Slot} {z : Int32} {rest : List Value} {t : FieldType} (X : Stand p l e R s m args below meth c T locs cells slots) (hx : p.tables.exec = Jvm.exec) (hret : meth.sig.returnType = some t) (ht : t = .boolean ∨ t = .byte ∨ t = .char ∨ t = .short) (hlk : meth.locks = false)
    (hd : decode c.code pc = .ok (.ireturn, 1)) (hc : cells ≤ kc) (hs : slots ≤ ks) (hQ : Q (some (.int (nar t z))) T.heap locs) : own_Go p e below s Q kc ks (T.setTop (mkF m pc Ls (.int z :: rest))) :=
  own_leave X (fun h => by rw [hret] at h; cases h) hlk hc hs hQ fun fs hl => retN X hx (t := t) hret ht hd hl
theorem own_nar01 {z : Int32} (h : z = 0 ∨ z = 1) : nar .boolean z = z := by rcases h with rfl | rfl <;> rfl
theorem own_retZ {Q : Option Value → Heap → List Loc → Prop} {kc ks pc : Nat} {Ls : Array Slot} {z : Int32} {rest : List Value} (X : Stand p l e R s m args below meth c T locs cells slots) (hx : p.tables.exec = Jvm.exec) (hret : meth.sig.returnType = some .boolean) (hlk : meth.locks = false)
    (hd : decode c.code pc = .ok (.ireturn, 1)) (hc : cells ≤ kc) (hs : slots ≤ ks) (hz : z = 0 ∨ z = 1) (hQ : Q (some (.int z)) T.heap locs) : own_Go p e below s Q kc ks (T.setTop (mkF m pc Ls (.int z :: rest))) :=
  own_retN X hx hret (Or.inl rfl) hlk hd hc hs (by rw [own_nar01 hz]; exact hQ)
theorem own_retJ {Q : Option Value → Heap → List Loc → Prop} {kc ks pc : Nat} {Ls : Array Slot} {z : Int64} (X : Stand p l e R s m args below meth c T locs cells slots) (hx : p.tables.exec = Jvm.exec) (hret : meth.sig.returnType = some .long) (hlk : meth.locks = false)
    (hd : decode c.code pc = .ok (.lreturn, 1)) (hc : cells ≤ kc) (hs : slots ≤ ks) (hQ : Q (some (.long z)) T.heap locs) : own_Go p e below s Q kc ks (T.setTop (mkF m pc Ls [.long z])) :=
  own_leave X (fun h => by rw [hret] at h; cases h) hlk hc hs hQ fun fs hl => X.lreturnOut hx hret hd hl
theorem own_retA {Q : Option Value → Heap → List Loc → Prop} {kc ks pc : Nat} {Ls : Array Slot} {w : Value} {t : FieldType} {rest : List Value} (X : Stand p l e R s m args below meth c T locs cells slots) (hx : p.tables.exec = Jvm.exec) (hret : meth.sig.returnType = some t) (ht : t.isReference = true) (hw : w.isRef = true) (hlk : meth.locks = false)
    (hd : decode c.code pc = .ok (.areturn, 1)) (hc : cells ≤ kc) (hs : slots ≤ ks) (hQ : Q (some w) T.heap locs) : own_Go p e below s Q kc ks (T.setTop (mkF m pc Ls (w :: rest))) := by
  refine own_leave X (fun h => by rw [hret] at h; cases h) hlk hc hs hQ fun fs hl => ?_
  have hm' : T.vm.method? m = some meth := X.method'
  show Steps p.tables e below (T.setTop { method := m, pc := pc, locals := Ls, stack := _ :: rest, locked := none }) _
  rcases ref_cases hw with rfl | ⟨a, rfl⟩
  all_goals
    jvm_step X.here [X.here.top, hx, hd, hm', hret, Value.isRef, ht]
    first | (intro acts; rw [hl _ acts rfl rfl rfl]) | rw [hl _ _ rfl rfl rfl]
    exact Steps.refl _
theorem own_retV {Q : Option Value → Heap → List Loc → Prop} {kc ks pc : Nat} {Ls : Array Slot} (X : Stand p l e R s m args below meth c T locs cells slots) (hx : p.tables.exec = Jvm.exec) (hret : meth.sig.returnType = none) (hlk : meth.locks = false)
    (hd : decode c.code pc = .ok (.return_, 1)) (hc : cells ≤ kc) (hs : slots ≤ ks) (hQ : Q none T.heap locs) : own_Go p e below s Q kc ks (T.setTop (mkF m pc Ls [])) :=
  own_leave X (fun _ => rfl) hlk hc hs hQ fun fs hl => X.returnOut hx hret hd hl
theorem own_getFR {Z : State} {a0 : Array Value} {h : Heap} (X : Stand p l e R s m args below meth c T locs cells slots) (hx : p.tables.exec = Jvm.exec) (hZ : Z.Warmed39 s.vm) {own O n d : String} {index : Nat} (hown : s.vm.findClass own = some m.cls) (w : (Jvm.Cond.fieldRef own index O n d).before a0 Z = true)
    (eT : T.heap = h) {a : Addr} {v : Value} (F : Fld Z h a O n d v) {g : JFrame} (hg : g.method = m) {rest : List Value} (hs : g.stack = .ref a :: rest) (hd : decode c.code g.pc = .ok (.getfield index, 3)) (target : State) (k : Steps p.tables e below (T.setTop { g with pc := g.pc + 3, stack := v :: rest }) target) : Steps p.tables e below (T.setTop g) target := by
  obtain ⟨cell, cf, kc, i, f, h1, h2, h3, h4, -, -, h7⟩ := F
  have hW : Z.Warmed39 T.vm := wtrans hZ X.warmed
  have w2 := Cond.fieldRef_warmed39 hW w
  obtain ⟨k', hi, -⟩ := State.fieldFound?_setVm (s := Z) hW.alike h2
  have hc : (Z.setVm T.vm).vm.findClass own = some m.cls := by show T.vm.findClass own = _; rw [X.warmed.alike.findClass]; exact hown
  obtain ⟨c1, k1, i1, f1, e1, hr⟩ := Cond.fieldRef_spec hc w2
  cases hi.symm.trans e1
  exact (X.getfieldR hx hg (cF := cf) (field := f) hr h3 hs (by rw [eT]; exact h1) h4 h7 hd (Steps.refl _)).trans k
theorem own_ite01 {c : Prop} [Decidable c] {a b : Int32} (ha : a = 0 ∨ a = 1) (hb : b = 0 ∨ b = 1) : (if c then a else b) = 0 ∨ (if c then a else b) = 1 := by split <;> assumption
end OwnKit
theorem own_selPriv {s : State} {args : Array Value} {y : MethodName} {k : Nat} (wi : (Jvm.Cond.instantiable y.cls k).before args s = true) (hinst : (Jvm.Cond.instanceMethod y).before args s = true) (hpriv : s.PrivateAt y) (hy : y.cls ≠ "java/lang/invoke/MethodHandle" ∧ y.cls ≠ "java/lang/invoke/VarHandle") : (Jvm.Cond.selects y.cls y y).before args s = true := by
  obtain ⟨t, kt, t1, t2, t3, t4, -⟩ := Cond.instantiable_spec wi
  have t5 : kt.isInterface = false := by
    cases q : kt.isInterface
    · rfl
    · rw [q] at t4; cases t4
  exact selects_self_of_private t1 t2 t5 hpriv hinst hy
theorem own_remI (a b : Int32) : a - a / b * b = a % b := by
  apply Int32.toInt_inj.mp
  rw [Int32.toInt_sub, Int32.toInt_mul, Int32.toInt_div, Int32.toInt_mod]
  rw [Int.bmod_mul_bmod, Int.sub_bmod_bmod]
  have e : a.toInt - a.toInt.tdiv b.toInt * b.toInt = a.toInt.tmod b.toInt := by
    have := Int.mul_tdiv_add_tmod a.toInt b.toInt
    rw [Int.mul_comm] at this
    omega
  rw [e, ← Int32.toInt_mod]
  exact Int.bmod_eq_of_le (by have := Int32.le_toInt (a % b); omega) (by have := Int32.toInt_lt (a % b); omega)
theorem own_remJ (a b : Int64) : a - a / b * b = a % b := by
  apply Int64.toInt_inj.mp
  rw [Int64.toInt_sub, Int64.toInt_mul, Int64.toInt_div, Int64.toInt_mod]
  rw [Int.bmod_mul_bmod, Int.sub_bmod_bmod]
  have e : a.toInt - a.toInt.tdiv b.toInt * b.toInt = a.toInt.tmod b.toInt := by
    have := Int.mul_tdiv_add_tmod a.toInt b.toInt
    rw [Int.mul_comm] at this
    omega
  rw [e, ← Int64.toInt_mod]
  exact Int.bmod_eq_of_le (by have := Int64.le_toInt (a % b); omega) (by have := Int64.toInt_lt (a % b); omega)
theorem own_lc_eq {a b : Int64} (h : a = b) : lcmpW a b = 0 := by subst h; simp [lcmpW]
theorem own_lc_neq {a b : Int64} (h : ¬ (a = b)) : ¬ (lcmpW a b = 0) := by unfold lcmpW; split <;> first | decide | (rw [if_neg h]; decide)
theorem own_lc_lt {a b : Int64} (h : a < b) : lcmpW a b < 0 := by
  have h1 : ¬ (a > b) := fun q => Int64.lt_irrefl (Int64.lt_trans h q)
  have h2 : ¬ (a = b) := fun q => by subst q; exact Int64.lt_irrefl h
  rw [lcmpW, if_neg h1, if_neg h2]; decide
theorem own_lc_nlt {a b : Int64} (h : ¬ (a < b)) : ¬ (lcmpW a b < 0) := by
  unfold lcmpW
  split
  · decide
  · rename_i h1
    split
    · decide
    · rename_i h2; exact absurd (Int64.le_antisymm (Int64.not_lt.mp h1) (Int64.not_lt.mp h)) h2
theorem own_lc_gt {a b : Int64} (h : b < a) : (0 : Int32) < lcmpW a b := by rw [lcmpW, if_pos h]; decide
theorem own_lc_ngt {a b : Int64} (h : ¬ (b < a)) : ¬ ((0 : Int32) < lcmpW a b) := by
  rw [lcmpW, if_neg h]; split <;> decide
theorem own_rn {w : Value} {C : String} (h : w.isRef = true) : narrow (.object C) w = w := by rcases ref_cases h with rfl | ⟨a, rfl⟩ <;> rfl
theorem own_rf {w : Value} {C : String} (h : w.isRef = true) : fits (.object C) w = true := by rcases ref_cases h with rfl | ⟨a, rfl⟩ <;> rfl
theorem own_plainE {Z : State} {h : Heap} {a : Addr} {C : String} (E : Exa Z h a C) : ∀ cell : Cell, h[a]? = some cell → cell.vm.isStatics = false := fun cell hc => by
  obtain ⟨c, k, h1, -, -, h4, -⟩ := E
  cases h1.symm.trans hc; exact h4
theorem own_staKeep {Z : State} {h h' : Heap} {C n d : String} {v : Value} {ws : List Addr} (F : Sta Z h C n d v) (K : Keep h h' ws) (q : ∀ x ∈ ws, ∀ cell : Cell, h[x]? = some cell → cell.vm.isStatics = false) : Sta Z h' C n d v := by
  obtain ⟨cf, i, k, f, st, cell, h1, h2, h3, h4, h5, h6, h7⟩ := F
  exact ⟨cf, i, k, f, st, cell, h1, h2, h3, h4, K.2.1 st cell h5 (fun hm => by rw [q st hm cell h5] at h6; cases h6), h6, h7⟩
def own_up {α : Type} (f : Nat → α) (i : Nat) (v : α) : Nat → α := fun k => if k = i then v else f k
def own_AI (Z : State) (h : Heap) (a : Addr) (ty : FieldType) (n : Nat) (f : Nat → Int32) : Prop := ∃ c : Cell, Arr Z h a c ty ∧ c.slots.size = n ∧ n < 2 ^ 31 ∧ ∀ j, j < n → c.slots[j]? = some (.int (f j))
theorem own_AI.lt {Z : State} {h : Heap} {a : Addr} {ty : FieldType} {n : Nat} {f : Nat → Int32} (F : own_AI Z h a ty n f) : a < h.size := by obtain ⟨c, A, -⟩ := F; exact A.lt
theorem own_AI.ext {Z : State} {h h' : Heap} {a : Addr} {ty : FieldType} {n : Nat} {f : Nat → Int32} (F : own_AI Z h a ty n f) (E : Ext h h') : own_AI Z h' a ty n f := by obtain ⟨c, A, r⟩ := F; exact ⟨c, A.ext E, r⟩
theorem own_AI.other {Z : State} {h h' : Heap} {a b : Addr} {ty : FieldType} {n sl : Nat} {w : Value} {f : Nat → Int32} (F : own_AI Z h a ty n f) (W : Wr h h' b sl w) (q : a ≠ b) : own_AI Z h' a ty n f := by obtain ⟨c, A, r⟩ := F; exact ⟨c, A.other W q, r⟩
theorem own_AI.keep {Z : State} {h h' : Heap} {a : Addr} {ty : FieldType} {n : Nat} {ws : List Addr} {f : Nat → Int32} (F : own_AI Z h a ty n f) (K : Keep h h' ws) (q : a ∉ ws) : own_AI Z h' a ty n f := by obtain ⟨c, A, r⟩ := F; exact ⟨c, ⟨K.2.1 a c A.1 q, A.2⟩, r⟩
theorem own_plainAI {Z : State} {h : Heap} {a : Addr} {ty : FieldType} {n : Nat} {f : Nat → Int32} (F : own_AI Z h a ty n f) : ∀ cell : Cell, h[a]? = some cell → cell.vm.isStatics = false := fun cell hc => by
  obtain ⟨c, A, -⟩ := F
  cases A.1.symm.trans hc; exact A.plain
theorem own_AI.wr {Z : State} {h h' : Heap} {a : Addr} {ty : FieldType} {n i : Nat} {x : Int32} {f : Nat → Int32} (F : own_AI Z h a ty n f) (W : Wr h h' a i (.int x)) : own_AI Z h' a ty n (own_up f i x) := by
  obtain ⟨c, A, S, B, H⟩ := F
  refine ⟨_, A.same W, by rw [sz_set]; exact S, B, fun j hj => ?_⟩
  show (c.slots.setIfInBounds i _)[j]? = _
  rw [Array.getElem?_setIfInBounds]
  by_cases q : i = j
  · subst q
    rw [if_pos rfl, if_pos (by rw [S]; exact hj)]; simp [own_up]
  · rw [if_neg q, H j hj, own_up, if_neg (fun e => q e.symm)]
theorem own_AI.new {Z : State} {h : Heap} {a : Addr} {k : ClassId} {ty : FieldType} {z : Int32} {n : Nat} (A : Arr Z h a (newA k ty z) ty) (hd : defaultValue ty = .int 0) (hn : z.toNatClampNeg = n) : own_AI Z h a ty n (fun _ => 0) := by
  refine ⟨_, A, by rw [sz_new]; exact hn, ?_, fun j hj => ?_⟩
  · have := Int32.toInt_lt z; rw [← hn]; unfold Int32.toNatClampNeg; omega
  · have hs : (newA k ty z).slots.size = n := by rw [sz_new]; exact hn
    simp only [newA] at hs ⊢
    rw [Array.getElem?_replicate, if_pos (by rw [hn]; exact hj), hd]
def own_AJ (Z : State) (h : Heap) (a : Addr) (ty : FieldType) (n : Nat) (f : Nat → Int64) : Prop := ∃ c : Cell, Arr Z h a c ty ∧ c.slots.size = n ∧ n < 2 ^ 31 ∧ ∀ j, j < n → c.slots[j]? = some (.long (f j))
theorem own_AJ.lt {Z : State} {h : Heap} {a : Addr} {ty : FieldType} {n : Nat} {f : Nat → Int64} (F : own_AJ Z h a ty n f) : a < h.size := by obtain ⟨c, A, -⟩ := F; exact A.lt
theorem own_AJ.ext {Z : State} {h h' : Heap} {a : Addr} {ty : FieldType} {n : Nat} {f : Nat → Int64} (F : own_AJ Z h a ty n f) (E : Ext h h') : own_AJ Z h' a ty n f := by obtain ⟨c, A, r⟩ := F; exact ⟨c, A.ext E, r⟩
theorem own_AJ.other {Z : State} {h h' : Heap} {a b : Addr} {ty : FieldType} {n sl : Nat} {w : Value} {f : Nat → Int64} (F : own_AJ Z h a ty n f) (W : Wr h h' b sl w) (q : a ≠ b) : own_AJ Z h' a ty n f := by obtain ⟨c, A, r⟩ := F; exact ⟨c, A.other W q, r⟩
theorem own_AJ.keep {Z : State} {h h' : Heap} {a : Addr} {ty : FieldType} {n : Nat} {ws : List Addr} {f : Nat → Int64} (F : own_AJ Z h a ty n f) (K : Keep h h' ws) (q : a ∉ ws) : own_AJ Z h' a ty n f := by obtain ⟨c, A, r⟩ := F; exact ⟨c, ⟨K.2.1 a c A.1 q, A.2⟩, r⟩
theorem own_plainAJ {Z : State} {h : Heap} {a : Addr} {ty : FieldType} {n : Nat} {f : Nat → Int64} (F : own_AJ Z h a ty n f) : ∀ cell : Cell, h[a]? = some cell → cell.vm.isStatics = false := fun cell hc => by
  obtain ⟨c, A, -⟩ := F
  cases A.1.symm.trans hc; exact A.plain
theorem own_AJ.wr {Z : State} {h h' : Heap} {a : Addr} {ty : FieldType} {n i : Nat} {x : Int64} {f : Nat → Int64} (F : own_AJ Z h a ty n f) (W : Wr h h' a i (.long x)) : own_AJ Z h' a ty n (own_up f i x) := by
  obtain ⟨c, A, S, B, H⟩ := F
  refine ⟨_, A.same W, by rw [sz_set]; exact S, B, fun j hj => ?_⟩
  show (c.slots.setIfInBounds i _)[j]? = _
  rw [Array.getElem?_setIfInBounds]
  by_cases q : i = j
  · subst q
    rw [if_pos rfl, if_pos (by rw [S]; exact hj)]; simp [own_up]
  · rw [if_neg q, H j hj, own_up, if_neg (fun e => q e.symm)]
theorem own_AJ.new {Z : State} {h : Heap} {a : Addr} {k : ClassId} {ty : FieldType} {z : Int32} {n : Nat} (A : Arr Z h a (newA k ty z) ty) (hd : defaultValue ty = .long 0) (hn : z.toNatClampNeg = n) : own_AJ Z h a ty n (fun _ => 0) := by
  refine ⟨_, A, by rw [sz_new]; exact hn, ?_, fun j hj => ?_⟩
  · have := Int32.toInt_lt z; rw [← hn]; unfold Int32.toNatClampNeg; omega
  · have hs : (newA k ty z).slots.size = n := by rw [sz_new]; exact hn
    simp only [newA] at hs ⊢
    rw [Array.getElem?_replicate, if_pos (by rw [hn]; exact hj), hd]
section OwnArr
variable {p : Program} {l : Launch} {e : Env} {R : Room} {s : State} {m : MethodId} {args : Array Value} {below : List Frame} {meth : Method} {c : Code} {T : State} {locs : List Loc} {cells slots : Nat} {Z : State} {h : Heap}
theorem own_inb {j : Int32} {n k : Nat} (S : k = n) (hj : ¬ j < 0 ∧ j.toNatClampNeg < n) : ¬ (j < 0 ∨ k ≤ j.toNatClampNeg) := fun q => q.elim hj.1 (fun u => absurd hj.2 (by omega))
theorem own_ldI (X : Stand p l e R s m args below meth c T locs cells slots) (hx : p.tables.exec = Jvm.exec) (hZ : Z.Warmed39 s.vm) (eT : T.heap = h) {a : Addr} {n : Nat} {f : Nat → Int32} (A : own_AI Z h a .int n f) {j : Int32} (hj : ¬ j < 0 ∧ j.toNatClampNeg < n)
    {g : JFrame} (hg : g.method = m) {rest : List Value} (hs : g.stack = .int j :: .ref a :: rest) (hd : decode c.code g.pc = .ok (.iaload, 1)) (target : State) (k : Steps p.tables e below (T.setTop { g with pc := g.pc + 1, stack := .int (f j.toNatClampNeg) :: rest }) target) : Steps p.tables e below (T.setTop g) target := by
  obtain ⟨c', Ar, S, -, H⟩ := A
  exact X.iaload hx (by rw [eT]; exact Ar.1) (State.isArrayOf_alike hZ.alike Ar.2.1) Ar.2.2 (own_inb S hj) (H _ hj.2) hg hs hd target k
theorem own_ldB (X : Stand p l e R s m args below meth c T locs cells slots) (hx : p.tables.exec = Jvm.exec) (hZ : Z.Warmed39 s.vm) (eT : T.heap = h) {a : Addr} {n : Nat} {f : Nat → Int32} (A : own_AI Z h a .byte n f) {j : Int32} (hj : ¬ j < 0 ∧ j.toNatClampNeg < n)
    {g : JFrame} (hg : g.method = m) {rest : List Value} (hs : g.stack = .int j :: .ref a :: rest) (hd : decode c.code g.pc = .ok (.baload, 1)) (target : State) (k : Steps p.tables e below (T.setTop { g with pc := g.pc + 1, stack := .int (f j.toNatClampNeg) :: rest }) target) : Steps p.tables e below (T.setTop g) target := by
  obtain ⟨c', Ar, S, -, H⟩ := A
  exact X.baloadBytes hx (by rw [eT]; exact Ar.1) (State.isArrayOf_alike hZ.alike Ar.2.1) Ar.2.2 (own_inb S hj) (H _ hj.2) hg hs hd target k
theorem own_ldJ (X : Stand p l e R s m args below meth c T locs cells slots) (hx : p.tables.exec = Jvm.exec) (hZ : Z.Warmed39 s.vm) (eT : T.heap = h) {a : Addr} {n : Nat} {f : Nat → Int64} (A : own_AJ Z h a .long n f) {j : Int32} (hj : ¬ j < 0 ∧ j.toNatClampNeg < n)
    {g : JFrame} (hg : g.method = m) {rest : List Value} (hs : g.stack = .int j :: .ref a :: rest) (hd : decode c.code g.pc = .ok (.laload, 1)) (target : State) (k : Steps p.tables e below (T.setTop { g with pc := g.pc + 1, stack := .long (f j.toNatClampNeg) :: rest }) target) : Steps p.tables e below (T.setTop g) target := by
  obtain ⟨c', Ar, S, -, H⟩ := A
  exact X.laload hx (by rw [eT]; exact Ar.1) (State.isArrayOf_alike hZ.alike Ar.2.1) Ar.2.2 (own_inb S hj) (H _ hj.2) hg hs hd target k
theorem own_lenI (X : Stand p l e R s m args below meth c T locs cells slots) (hx : p.tables.exec = Jvm.exec) (hZ : Z.Warmed39 s.vm) (eT : T.heap = h) {a : Addr} {ty : FieldType} {n : Nat} {f : Nat → Int32} (A : own_AI Z h a ty n f)
    {g : JFrame} (hg : g.method = m) {rest : List Value} (hs : g.stack = .ref a :: rest) (hd : decode c.code g.pc = .ok (.arraylength, 1)) (target : State) (k : Steps p.tables e below (T.setTop { g with pc := g.pc + 1, stack := .int (n.toInt32) :: rest }) target) : Steps p.tables e below (T.setTop g) target := by
  obtain ⟨c', Ar, S, -, H⟩ := A
  exact X.arraylength hx (by rw [eT]; exact Ar.1) (State.isArrayOf_alike hZ.alike Ar.2.1) hg hs hd target (by rw [S]; exact k)
theorem own_lenJ (X : Stand p l e R s m args below meth c T locs cells slots) (hx : p.tables.exec = Jvm.exec) (hZ : Z.Warmed39 s.vm) (eT : T.heap = h) {a : Addr} {ty : FieldType} {n : Nat} {f : Nat → Int64} (A : own_AJ Z h a ty n f)
    {g : JFrame} (hg : g.method = m) {rest : List Value} (hs : g.stack = .ref a :: rest) (hd : decode c.code g.pc = .ok (.arraylength, 1)) (target : State) (k : Steps p.tables e below (T.setTop { g with pc := g.pc + 1, stack := .int (n.toInt32) :: rest }) target) : Steps p.tables e below (T.setTop g) target := by
  obtain ⟨c', Ar, S, -, H⟩ := A
  exact X.arraylength hx (by rw [eT]; exact Ar.1) (State.isArrayOf_alike hZ.alike Ar.2.1) hg hs hd target (by rw [S]; exact k)
theorem own_stI (X : Stand p l e R s m args below meth c T locs cells slots) (hx : p.tables.exec = Jvm.exec) (hZ : Z.Warmed39 s.vm) (eT : T.heap = h) {a : Addr} {n : Nat} {f : Nat → Int32} (A : own_AI Z h a .int n f) {j x : Int32} (hj : ¬ j < 0 ∧ j.toNatClampNeg < n)
    {g : JFrame} (hg : g.method = m) {rest : List Value} (hs : g.stack = .int x :: .int j :: .ref a :: rest) (hd : decode c.code g.pc = .ok (.iastore, 1)) :
    ∃ T' h', Stand p l e R s m args below meth c T' (locs ++ [⟨a, j.toNatClampNeg⟩]) cells slots ∧ T'.heap = h' ∧ Wr h h' a j.toNatClampNeg (.int x) ∧ own_AI Z h' a .int n (own_up f j.toNatClampNeg x) ∧ ∀ target, Steps p.tables e below (T'.setTop { g with pc := g.pc + 1, stack := rest }) target → Steps p.tables e below (T.setTop g) target := by
  have A2 := A
  obtain ⟨c', Ar, S, -, H⟩ := A
  obtain ⟨T', h', X', e', W, st⟩ := stI X hx hZ eT Ar (j := j) (x := x) (own_inb S hj) hg hs hd
  exact ⟨T', h', X', e', W, A2.wr W, st⟩
theorem own_stB (X : Stand p l e R s m args below meth c T locs cells slots) (hx : p.tables.exec = Jvm.exec) (hZ : Z.Warmed39 s.vm) (eT : T.heap = h) {a : Addr} {n : Nat} {f : Nat → Int32} (A : own_AI Z h a .byte n f) {j x : Int32} (hj : ¬ j < 0 ∧ j.toNatClampNeg < n)
    {g : JFrame} (hg : g.method = m) {rest : List Value} (hs : g.stack = .int x :: .int j :: .ref a :: rest) (hd : decode c.code g.pc = .ok (.bastore, 1)) :
    ∃ T' h', Stand p l e R s m args below meth c T' (locs ++ [⟨a, j.toNatClampNeg⟩]) cells slots ∧ T'.heap = h' ∧ Wr h h' a j.toNatClampNeg (.int (nar .byte x)) ∧ own_AI Z h' a .byte n (own_up f j.toNatClampNeg (nar .byte x)) ∧ ∀ target, Steps p.tables e below (T'.setTop { g with pc := g.pc + 1, stack := rest }) target → Steps p.tables e below (T.setTop g) target := by
  have A2 := A
  obtain ⟨c', Ar, S, -, H⟩ := A
  obtain ⟨T', h', X', e', W, st⟩ := stB X hx hZ eT Ar (j := j) (x := x) (own_inb S hj) hg hs hd
  exact ⟨T', h', X', e', W, A2.wr W, st⟩
theorem own_stC (X : Stand p l e R s m args below meth c T locs cells slots) (hx : p.tables.exec = Jvm.exec) (hZ : Z.Warmed39 s.vm) (eT : T.heap = h) {a : Addr} {n : Nat} {f : Nat → Int32} (A : own_AI Z h a .char n f) {j x : Int32} (hj : ¬ j < 0 ∧ j.toNatClampNeg < n)
    {g : JFrame} (hg : g.method = m) {rest : List Value} (hs : g.stack = .int x :: .int j :: .ref a :: rest) (hd : decode c.code g.pc = .ok (.castore, 1)) :
    ∃ T' h', Stand p l e R s m args below meth c T' (locs ++ [⟨a, j.toNatClampNeg⟩]) cells slots ∧ T'.heap = h' ∧ Wr h h' a j.toNatClampNeg (.int (nar .char x)) ∧ own_AI Z h' a .char n (own_up f j.toNatClampNeg (nar .char x)) ∧ ∀ target, Steps p.tables e below (T'.setTop { g with pc := g.pc + 1, stack := rest }) target → Steps p.tables e below (T.setTop g) target := by
  have A2 := A
  obtain ⟨c', Ar, S, -, H⟩ := A
  obtain ⟨T', h', X', e', W, st⟩ := stC X hx hZ eT Ar (j := j) (x := x) (own_inb S hj) hg hs hd
  exact ⟨T', h', X', e', W, A2.wr W, st⟩
theorem own_stJ (X : Stand p l e R s m args below meth c T locs cells slots) (hx : p.tables.exec = Jvm.exec) (hZ : Z.Warmed39 s.vm) (eT : T.heap = h) {a : Addr} {n : Nat} {f : Nat → Int64} (A : own_AJ Z h a .long n f) {j : Int32} {x : Int64} (hj : ¬ j < 0 ∧ j.toNatClampNeg < n)
    {g : JFrame} (hg : g.method = m) {rest : List Value} (hs : g.stack = .long x :: .int j :: .ref a :: rest) (hd : decode c.code g.pc = .ok (.lastore, 1)) :
    ∃ T' h', Stand p l e R s m args below meth c T' (locs ++ [⟨a, j.toNatClampNeg⟩]) cells slots ∧ T'.heap = h' ∧ Wr h h' a j.toNatClampNeg (.long x) ∧ own_AJ Z h' a .long n (own_up f j.toNatClampNeg x) ∧ ∀ target, Steps p.tables e below (T'.setTop { g with pc := g.pc + 1, stack := rest }) target → Steps p.tables e below (T.setTop g) target := by
  have A2 := A
  obtain ⟨c', Ar, S, -, H⟩ := A
  obtain ⟨T', h', X', e', W, st⟩ := stJ X hx hZ eT Ar (j := j) (x := x) (own_inb S hj) hg hs hd
  exact ⟨T', h', X', e', W, A2.wr W, st⟩
end OwnArr
section OwnKitL
/-- from the state A the run comes to a state of which Post speaks -/
def own_Run (p : Program) (e : Env) (below : List Frame) (A : State) (Post : State → Prop) : Prop := ∃ B, Post B ∧ ∀ t, Steps p.tables e below B t → Steps p.tables e below A t
theorem own_run {p : Program} {e : Env} {below : List Frame} {A B : State} {Post : State → Prop} (h : ∀ t, Steps p.tables e below B t → Steps p.tables e below A t) (k : own_Run p e below B Post) : own_Run p e below A Post := by
  obtain ⟨C, h1, h2⟩ := k
  exact ⟨C, h1, fun t kt => h t (h2 t kt)⟩
end OwnKitL
section OwnSBR
variable {p : Program} {l : Launch} {e : Env} {R : Room} {s : State} {m : MethodId} {args : Array Value} {below : List Frame} {meth : Method} {c : Code} {T : State} {locs : List Loc} {cells slots : Nat}
/-- a constructor's call whose pool entry stands resolved -/
theorem own_specialBackR {Z : State} {a0 : Array Value} (X : Stand p l e R s m args below meth c T locs cells slots) (hexec : p.tables.exec = Jvm.exec) (hZ : Z.Warmed39 s.vm) {own : String} {index : Nat} {y : MethodName} (hy1 : y.name = "<init>")
    (hown : s.vm.findClass own = some m.cls) (hlink : (Jvm.Cond.methodRef own index y).before a0 Z = true) (hinst : (Jvm.Cond.instanceMethod y).before args s = true)
    {bytes : ByteArray} {maxL : Nat} (hcode : (Jvm.Cond.code y bytes maxL none).before args s = true)
    (hy : y.cls ≠ "java/lang/invoke/MethodHandle" ∧ y.cls ≠ "java/lang/invoke/VarHandle")
    {W : Nat} {Pre : Pt → Array Value → Prop} {Post : Pt → Array Value → Option Value → Pt → Prop} (hK : Back l R p e below s args y 3 W Pre Post)
    {g : JFrame} (hg : g.method = m) (hsize : g.locals.size = c.maxLocals) {s₀ : State} (hcome : Steps p.tables e below s₀ (T.setTop g)) {a : Addr} {argsL rest : List Value}
    (hlen : ∀ sig, parseMethodDescriptor y.desc = some sig → argsL.length = sig.parameters.length) (hstack : g.stack = argsL.reverse ++ .ref a :: rest) (hW : 2 * g.monitorRoom + (rest.map fun v => v.category).sum ≤ W)
    (hdg : decode c.code g.pc = .ok (.invokespecial index, 3)) (hpre : ∀ vm₁, s.WarmedH vm₁ → Pre ⟨T.setVm vm₁, locs, cells, slots⟩ (.ref a :: argsL).toArray) :
    ∃ (v : Option Value) (vm₁ : Vm) (B : Pt), s.WarmedH vm₁ ∧ Stand p l e R s m args below meth c B.U B.locs B.cells B.slots ∧ Post ⟨T.setVm vm₁, locs, cells, slots⟩ (.ref a :: argsL).toArray v B ∧
      Steps p.tables e below s₀ (B.U.setTop { g with pc := g.pc + 3, stack := v.toList ++ rest }) := by
  subst hg
  obtain ⟨obj, methO, hnO, hmO, hstO, habO⟩ := Cond.instanceMethod_spec hinst
  obtain ⟨methO', cO, hmO', hcO, hbO, hlO, -, hlockO, -, hsigO⟩ := Cond.code_spec hnO hcode
  cases hmO.symm.trans hmO'
  obtain ⟨kO, hkO, hnameO⟩ := className_of_methodNamed hnO
  obtain ⟨hnameMO, hdescO⟩ := name_of_methodNamed hnO hmO
  have hWT : Z.Warmed39 T.vm := wtrans hZ X.warmed
  have hnT : (Z.setVm T.vm).methodNamed? y = some obj := X.named hnO
  have hnZ : Z.methodNamed? y = some obj := by rw [← State.methodNamed?_setVm hWT.alike]; exact hnT
  have w2 := Cond.methodRef_warmed39 hWT hnZ hy hlink
  have hc : (Z.setVm T.vm).vm.findClass own = some g.method.cls := by show T.vm.findClass own = _; rw [X.warmed.alike.findClass]; exact hown
  obtain ⟨r, c', hf, hready, hfind, hnamed⟩ := Cond.methodRef_named e hc w2
  cases (State.methodFound?_of_named hnT hy).symm.trans hf
  cases (findClass_of_methodNamed hnT).symm.trans hfind
  obtain ⟨kO₂, hkO₂, -⟩ := X.warmed.alike.2.2 _ _ hkO
  have hmT : T.vm.method? obj = some methO := by rw [X.warmed.alike.method?]; exact hmO
  have hfound : lookupSpecial T.vm obj.cls "<init>" methO.desc = .method obj := by
    rw [X.warmed.alike.lookupSpecial, hdescO, ← hy1]; exact lookupSpecial_of_named hnO hmO hstO
  have hstep : ∀ target, (∀ acts, Steps p.tables e below (doInvoke e (T.setTop { g with stack := rest }) acts obj (.ref a :: argsL).toArray).1 target) → Steps p.tables e below (T.setTop g) target := fun target hrest => by
    have h := X.here
    jvm_step h [hexec, hdg, invokespecial.wp_init (e := e) (s := T) (k := kO₂) (meth := methO) (m := obj) (a := a) (args := argsL) (rest := rest) (f := g) h.top hnamed hready hkO₂ hmT (by rw [hnameMO]; exact hy1) hstO habO hfound (hlen _ hsigO) hstack]
    exact hrest
  have hTT : T.setVm T.vm = T := rfl
  have hpre' := hpre T.vm X.warmed
  rw [hTT] at hpre'
  obtain ⟨v, B, X', hpost, hsteps⟩ := hK g.method meth c ⟨T, locs, cells, slots⟩ { g with stack := rest } (.invokespecial index) obj (.ref a :: argsL).toArray X rfl hsize hdg hW (X.named hnO) hpre'
  exact ⟨v, T.vm, B, X.warmed, X', by rw [hTT]; exact hpost, (hcome.trans (hstep _ fun acts => by rw [doInvoke_state]; exact Steps.refl _)).trans hsteps⟩
end OwnSBR
theorem d10_0 : decode jdk_33_method_48_code 0 = .ok (.iload_n 0, 1) := by decide +kernel
theorem d10_1 : decode jdk_33_method_48_code 1 = .ok (.iconst (-1), 1) := by decide +kernel
theorem d10_2 : decode jdk_33_method_48_code 2 = .ok (.ixor, 1) := by decide +kernel
theorem d10_3 : decode jdk_33_method_48_code 3 = .ok (.iload_n 0, 1) := by decide +kernel
theorem d10_4 : decode jdk_33_method_48_code 4 = .ok (.iconst 1, 1) := by decide +kernel
theorem d10_5 : decode jdk_33_method_48_code 5 = .ok (.isub, 1) := by decide +kernel
theorem d10_6 : decode jdk_33_method_48_code 6 = .ok (.iand, 1) := by decide +kernel
theorem d10_7 : decode jdk_33_method_48_code 7 = .ok (.istore_n 0, 1) := by decide +kernel
theorem d10_8 : decode jdk_33_method_48_code 8 = .ok (.iload_n 0, 1) := by decide +kernel
theorem d10_9 : decode jdk_33_method_48_code 9 = .ok (.ifCond .gt 8, 3) := by decide +kernel
theorem d10_12 : decode jdk_33_method_48_code 12 = .ok (.iload_n 0, 1) := by decide +kernel
theorem d10_13 : decode jdk_33_method_48_code 13 = .ok (.bipush 32, 2) := by decide +kernel
theorem d10_15 : decode jdk_33_method_48_code 15 = .ok (.iand, 1) := by decide +kernel
theorem d10_16 : decode jdk_33_method_48_code 16 = .ok (.ireturn, 1) := by decide +kernel
theorem d10_17 : decode jdk_33_method_48_code 17 = .ok (.iconst 1, 1) := by decide +kernel
theorem d10_18 : decode jdk_33_method_48_code 18 = .ok (.istore_n 1, 1) := by decide +kernel
theorem d10_19 : decode jdk_33_method_48_code 19 = .ok (.iload_n 0, 1) := by decide +kernel
theorem d10_20 : decode jdk_33_method_48_code 20 = .ok (.ldc_w 264, 3) := by decide +kernel
theorem d10_23 : decode jdk_33_method_48_code 23 = .ok (.if_icmp .le 11, 3) := by decide +kernel
theorem d10_26 : decode jdk_33_method_48_code 26 = .ok (.iinc 1 16, 3) := by decide +kernel
theorem d10_29 : decode jdk_33_method_48_code 29 = .ok (.iload_n 0, 1) := by decide +kernel
theorem d10_30 : decode jdk_33_method_48_code 30 = .ok (.bipush 16, 2) := by decide +kernel
theorem d10_32 : decode jdk_33_method_48_code 32 = .ok (.iushr, 1) := by decide +kernel
theorem d10_33 : decode jdk_33_method_48_code 33 = .ok (.istore_n 0, 1) := by decide +kernel
theorem d10_34 : decode jdk_33_method_48_code 34 = .ok (.iload_n 0, 1) := by decide +kernel
theorem d10_35 : decode jdk_33_method_48_code 35 = .ok (.sipush 256, 3) := by decide +kernel
theorem d10_38 : decode jdk_33_method_48_code 38 = .ok (.if_icmp .le 11, 3) := by decide +kernel
theorem d10_41 : decode jdk_33_method_48_code 41 = .ok (.iinc 1 8, 3) := by decide +kernel
theorem d10_44 : decode jdk_33_method_48_code 44 = .ok (.iload_n 0, 1) := by decide +kernel
theorem d10_45 : decode jdk_33_method_48_code 45 = .ok (.bipush 8, 2) := by decide +kernel
theorem d10_47 : decode jdk_33_method_48_code 47 = .ok (.iushr, 1) := by decide +kernel
theorem d10_48 : decode jdk_33_method_48_code 48 = .ok (.istore_n 0, 1) := by decide +kernel
theorem d10_49 : decode jdk_33_method_48_code 49 = .ok (.iload_n 0, 1) := by decide +kernel
theorem d10_50 : decode jdk_33_method_48_code 50 = .ok (.bipush 16, 2) := by decide +kernel
theorem d10_52 : decode jdk_33_method_48_code 52 = .ok (.if_icmp .le 10, 3) := by decide +kernel
theorem d10_55 : decode jdk_33_method_48_code 55 = .ok (.iinc 1 4, 3) := by decide +kernel
theorem d10_58 : decode jdk_33_method_48_code 58 = .ok (.iload_n 0, 1) := by decide +kernel
theorem d10_59 : decode jdk_33_method_48_code 59 = .ok (.iconst 4, 1) := by decide +kernel
theorem d10_60 : decode jdk_33_method_48_code 60 = .ok (.iushr, 1) := by decide +kernel
theorem d10_61 : decode jdk_33_method_48_code 61 = .ok (.istore_n 0, 1) := by decide +kernel
theorem d10_62 : decode jdk_33_method_48_code 62 = .ok (.iload_n 0, 1) := by decide +kernel
theorem d10_63 : decode jdk_33_method_48_code 63 = .ok (.iconst 4, 1) := by decide +kernel
theorem d10_64 : decode jdk_33_method_48_code 64 = .ok (.if_icmp .le 10, 3) := by decide +kernel
theorem d10_67 : decode jdk_33_method_48_code 67 = .ok (.iinc 1 2, 3) := by decide +kernel
theorem d10_70 : decode jdk_33_method_48_code 70 = .ok (.iload_n 0, 1) := by decide +kernel
theorem d10_71 : decode jdk_33_method_48_code 71 = .ok (.iconst 2, 1) := by decide +kernel
theorem d10_72 : decode jdk_33_method_48_code 72 = .ok (.iushr, 1) := by decide +kernel
theorem d10_73 : decode jdk_33_method_48_code 73 = .ok (.istore_n 0, 1) := by decide +kernel
theorem d10_74 : decode jdk_33_method_48_code 74 = .ok (.iload_n 1, 1) := by decide +kernel
theorem d10_75 : decode jdk_33_method_48_code 75 = .ok (.iload_n 0, 1) := by decide +kernel
theorem d10_76 : decode jdk_33_method_48_code 76 = .ok (.iconst 1, 1) := by decide +kernel
theorem d10_77 : decode jdk_33_method_48_code 77 = .ok (.iushr, 1) := by decide +kernel
theorem d10_78 : decode jdk_33_method_48_code 78 = .ok (.iadd, 1) := by decide +kernel
theorem d10_79 : decode jdk_33_method_48_code 79 = .ok (.ireturn, 1) := by decide +kernel
theorem ef_nt (m : MethodId) (p0 : Int32) : entryFrame m #[(.int p0)] 2 = mkF m 0 #[.val (.int p0), .unset] [] := by (first | (simp [entryFrame, mkF, argsToLocals, Value.category]; done) | rfl)
def own_rnt_v1 (p0 : Int32) : Int32 := ((p0 ^^^ (-1 : Int32)) &&& (p0 - (1 : Int32)))
def own_rnt_v4 (p0 : Int32) : Int32 := ((1 : Int32) + (16 : Int32))
def own_rnt_v5 (p0 : Int32) : Int32 := (((own_rnt_v1 p0).toUInt32 >>> ((16 : Int32) &&& 31).toUInt32).toInt32)
def own_rnt_v6 (p0 : Int32) : Int32 := (if (65536 : Int32) < (own_rnt_v1 p0) then (own_rnt_v5 p0) else (own_rnt_v1 p0))
def own_rnt_v7 (p0 : Int32) : Int32 := (if (65536 : Int32) < (own_rnt_v1 p0) then (own_rnt_v4 p0) else (1 : Int32))
def own_rnt_v9 (p0 : Int32) : Int32 := ((own_rnt_v7 p0) + (8 : Int32))
def own_rnt_v10 (p0 : Int32) : Int32 := (((own_rnt_v6 p0).toUInt32 >>> ((8 : Int32) &&& 31).toUInt32).toInt32)
def own_rnt_v11 (p0 : Int32) : Int32 := (if (256 : Int32) < (own_rnt_v6 p0) then (own_rnt_v10 p0) else (own_rnt_v6 p0))
def own_rnt_v12 (p0 : Int32) : Int32 := (if (256 : Int32) < (own_rnt_v6 p0) then (own_rnt_v9 p0) else (own_rnt_v7 p0))
def own_rnt_v14 (p0 : Int32) : Int32 := ((own_rnt_v12 p0) + (4 : Int32))
def own_rnt_v15 (p0 : Int32) : Int32 := (((own_rnt_v11 p0).toUInt32 >>> ((4 : Int32) &&& 31).toUInt32).toInt32)
def own_rnt_v16 (p0 : Int32) : Int32 := (if (16 : Int32) < (own_rnt_v11 p0) then (own_rnt_v15 p0) else (own_rnt_v11 p0))
def own_rnt_v17 (p0 : Int32) : Int32 := (if (16 : Int32) < (own_rnt_v11 p0) then (own_rnt_v14 p0) else (own_rnt_v12 p0))
def own_rnt_v19 (p0 : Int32) : Int32 := ((own_rnt_v17 p0) + (2 : Int32))
def own_rnt_v20 (p0 : Int32) : Int32 := (((own_rnt_v16 p0).toUInt32 >>> ((2 : Int32) &&& 31).toUInt32).toInt32)
def own_rnt_v21 (p0 : Int32) : Int32 := (if (4 : Int32) < (own_rnt_v16 p0) then (own_rnt_v20 p0) else (own_rnt_v16 p0))
def own_rnt_v22 (p0 : Int32) : Int32 := (if (4 : Int32) < (own_rnt_v16 p0) then (own_rnt_v19 p0) else (own_rnt_v17 p0))
def own_rnt_v23 (p0 : Int32) : Int32 := ((own_rnt_v22 p0) + (((own_rnt_v21 p0).toUInt32 >>> ((1 : Int32) &&& 31).toUInt32).toInt32))
def own_rnt_v24 (p0 : Int32) : Int32 := ((own_rnt_v1 p0) &&& (32 : Int32))
def own_rnt (p0 : Int32) : Int32 := (if (0 : Int32) < (own_rnt_v1 p0) then (own_rnt_v23 p0) else (own_rnt_v24 p0))
theorem pn0 : plainName "java/lang/Integer" = true := by first | (simp [plainName, overriddenIn]; done) | decide +kernel
def Qnt (Z : State) (p0 : Int32) (h0 : Heap) (n0 : Nat) (v : Option Value) (h : Heap) (L : List Loc) : Prop := v = some (.int (own_rnt p0)) ∧ Fr n0 L ∧ h = h0
set_option maxRecDepth 65536 in
set_option maxHeartbeats 40000000 in
theorem rmnt (l : Launch) (Z : State) (a0 : Array Value) (hw : ∀ d ∈ tables_1, d.before a0 Z = true) (ws : List Jvm.Cond) (p0 : Int32) (h0 : Heap) (n0 : Nat) (Z0 : n0 ≤ h0.size) :
    MetFree l (⟨"java/lang/Integer", "numberOfTrailingZeros", "(I)I"⟩ : MethodName) (head1 (Jvm.Cond.code (⟨"java/lang/Integer", "numberOfTrailingZeros", "(I)I"⟩ : MethodName) jdk_33_method_48_code 2 (some .int) :: ws) ({ frames := 0, cells := 0, slots := 0, locals := 0 } : Room)) (fun a U => a = #[(.int p0)] ∧ Z.Warmed39 U.vm ∧ U.heap = h0) (fun _ _ _ _ _ => True) (fun _ U o U' => ∃ v L, o = .returned v ∧ Qnt Z p0 h0 n0 v U'.heap L ∧ FrameEnd U o U' L ({ frames := 0, cells := 0, slots := 0, locals := 0 } : Room).cells ({ frames := 0, cells := 0, slots := 0, locals := 0 } : Room).slots) := by
  refine MetFree.of_bodySF (plainFor_of_name pn0) hisR ?_
  intro p e s m args below meth c s₁ Bd hml0 hP hK
  obtain ⟨rfl, hZ, hh⟩ := hP
  have hx := Bd.exec
  have hby := Bd.bytes
  have hml : c.maxLocals = 2 := hml0
  have hown : s.vm.findClass "java/lang/Integer" = some m.cls := findClass_of_methodNamed Bd.named
  have hnm := (name_of_methodNamed Bd.named Bd.method).1
  have X0 : Stand p l e ({ frames := 0, cells := 0, slots := 0, locals := 0 } : Room) s m #[(.int p0)] below meth c s₁ [] 0 0 := Stand.of_body Bd
  have e0 : s₁.heap = h0 := by rw [← hh, Bd.state]; rfl
  have N0 := Fr.nil n0
  have K0 : Keep h0 h0 [] := Keep.refl h0 _
  show own_Go p e below s (Qnt Z p0 h0 n0) ({ frames := 0, cells := 0, slots := 0, locals := 0 } : Room).cells ({ frames := 0, cells := 0, slots := 0, locals := 0 } : Room).slots (s₁.setTop (entryFrame m #[(.int p0)] 2))
  refine own_go (fun t k => castTop (ef_nt m p0) k) ?_
  obtain ⟨v1, hv1⟩ : ∃ z : Int32, z = ((p0 ^^^ (-1 : Int32)) &&& (p0 - (1 : Int32))) := ⟨_, rfl⟩
  have hgo101 : ∀ t, Steps p.tables e below (s₁.setTop (mkF m 9 #[.val (.int v1), .unset] [(.int v1)])) t → Steps p.tables e below (s₁.setTop (mkF m 0 #[.val (.int p0), .unset] [])) t := by
    intro t kt
    show Steps p.tables e below (s₁.setTop (mkF m 0 #[.val (.int p0), .unset] [])) _
    refine XS.iloadN X0.here hx rfl (hb hby d10_0) rfl ?_
    refine XS.iconst X0.here hx rfl (hb hby d10_1) ?_
    refine XS.ixor X0.here hx rfl (hb hby d10_2) rfl ?_
    show Steps p.tables e below (s₁.setTop (mkF m 3 #[.val (.int p0), .unset] [(.int (p0 ^^^ (-1 : Int32)))])) _
    refine XS.iloadN X0.here hx rfl (hb hby d10_3) rfl ?_
    refine XS.iconst X0.here hx rfl (hb hby d10_4) ?_
    refine XS.isub X0.here hx rfl (hb hby d10_5) rfl ?_
    show Steps p.tables e below (s₁.setTop (mkF m 6 #[.val (.int p0), .unset] [(.int (p0 - (1 : Int32))), (.int (p0 ^^^ (-1 : Int32)))])) _
    refine XS.iand X0.here hx rfl (hb hby d10_6) rfl ?_
    show Steps p.tables e below (s₁.setTop (mkF m 7 #[.val (.int p0), .unset] [(.int ((p0 ^^^ (-1 : Int32)) &&& (p0 - (1 : Int32))))])) _
    rw [← hv1]
    show Steps p.tables e below (s₁.setTop (mkF m 7 #[.val (.int p0), .unset] [(.int v1)])) _
    refine XS.istoreN X0.here hx rfl (hb hby d10_7) rfl (l' := #[.val (.int v1), .unset]) rfl ?_
    show Steps p.tables e below (s₁.setTop (mkF m 8 #[.val (.int v1), .unset] [])) _
    refine XS.iloadN X0.here hx rfl (hb hby d10_8) rfl ?_
    exact kt
  refine own_go hgo101 ?_
  by_cases hc9_2 : (0 : Int32) < v1
  · obtain ⟨v4, hv4⟩ : ∃ z : Int32, z = ((1 : Int32) + (16 : Int32)) := ⟨_, rfl⟩
    obtain ⟨v5, hv5⟩ : ∃ z : Int32, z = ((v1.toUInt32 >>> ((16 : Int32) &&& 31).toUInt32).toInt32) := ⟨_, rfl⟩
    obtain ⟨v6, hv6⟩ : ∃ z : Int32, z = (if (65536 : Int32) < v1 then v5 else v1) := ⟨_, rfl⟩
    obtain ⟨v7, hv7⟩ : ∃ z : Int32, z = (if (65536 : Int32) < v1 then v4 else (1 : Int32)) := ⟨_, rfl⟩
    obtain ⟨T104, lc104, X104, N104, e104, st104⟩ := own_mrg (n0 := n0) (h := h0) (g := (mkF m 23 #[.val (.int v1), .val (.int (1 : Int32))] [(.int (65536 : Int32)), (.int v1)])) (g' := (mkF m 34 #[.val (.int v6), .val (.int v7)] [])) X0 (by
      by_cases hc23_3 : (65536 : Int32) < v1
      · have hgo102 : ∀ t, Steps p.tables e below (s₁.setTop (mkF m 34 #[.val (.int v5), .val (.int v4)] [])) t → Steps p.tables e below (s₁.setTop (mkF m 23 #[.val (.int v1), .val (.int (1 : Int32))] [(.int (65536 : Int32)), (.int v1)])) t := by
          intro t kt
          show Steps p.tables e below (s₁.setTop (mkF m 23 #[.val (.int v1), .val (.int (1 : Int32))] [(.int (65536 : Int32)), (.int v1)])) _
          refine XS.icmpNo X0.here hx rfl (hb hby d10_23) rfl (tlt hc23_3).2.2.2 ?_
          show Steps p.tables e below (s₁.setTop (mkF m 26 #[.val (.int v1), .val (.int (1 : Int32))] [])) _
          refine XS.iinc X0.here hx rfl (hb hby d10_26) rfl (l' := #[.val (.int v1), .val (.int ((1 : Int32) + (16 : Int32)))]) rfl ?_
          rw [← hv4]
          show Steps p.tables e below (s₁.setTop (mkF m 29 #[.val (.int v1), .val (.int v4)] [])) _
          refine XS.iloadN X0.here hx rfl (hb hby d10_29) rfl ?_
          refine XS.bipush X0.here hx rfl (hb hby d10_30) ?_
          refine XS.iushr X0.here hx rfl (hb hby d10_32) rfl ?_
          show Steps p.tables e below (s₁.setTop (mkF m 33 #[.val (.int v1), .val (.int v4)] [(.int ((v1.toUInt32 >>> ((16 : Int32) &&& 31).toUInt32).toInt32))])) _
          rw [← hv5]
          show Steps p.tables e below (s₁.setTop (mkF m 33 #[.val (.int v1), .val (.int v4)] [(.int v5)])) _
          refine XS.istoreN X0.here hx rfl (hb hby d10_33) rfl (l' := #[.val (.int v5), .val (.int v4)]) rfl ?_
          exact kt
        refine own_arm hgo102 ?_
        exact own_armEnd X0 N0 e0 (by rw [hv6.trans (if_pos hc23_3), hv7.trans (if_pos hc23_3)])
      · have hgo103 : ∀ t, Steps p.tables e below (s₁.setTop (mkF m 34 #[.val (.int v1), .val (.int (1 : Int32))] [])) t → Steps p.tables e below (s₁.setTop (mkF m 23 #[.val (.int v1), .val (.int (1 : Int32))] [(.int (65536 : Int32)), (.int v1)])) t := by
          intro t kt
          show Steps p.tables e below (s₁.setTop (mkF m 23 #[.val (.int v1), .val (.int (1 : Int32))] [(.int (65536 : Int32)), (.int v1)])) _
          refine XS.icmpYes X0.here hx rfl (pc0 := 23) (pc' := 34) rfl (hb hby d10_23) rfl (flt hc23_3).2.2.2 (by decide) (by decide) ?_
          exact kt
        refine own_arm hgo103 ?_
        exact own_armEnd X0 N0 e0 (by rw [hv6.trans (if_neg hc23_3), hv7.trans (if_neg hc23_3)]))
    obtain ⟨v9, hv9⟩ : ∃ z : Int32, z = (v7 + (8 : Int32)) := ⟨_, rfl⟩
    obtain ⟨v10, hv10⟩ : ∃ z : Int32, z = ((v6.toUInt32 >>> ((8 : Int32) &&& 31).toUInt32).toInt32) := ⟨_, rfl⟩
    obtain ⟨v11, hv11⟩ : ∃ z : Int32, z = (if (256 : Int32) < v6 then v10 else v6) := ⟨_, rfl⟩
    obtain ⟨v12, hv12⟩ : ∃ z : Int32, z = (if (256 : Int32) < v6 then v9 else v7) := ⟨_, rfl⟩
    obtain ⟨T107, lc107, X107, N107, e107, st107⟩ := own_mrg (n0 := n0) (h := h0) (g := (mkF m 38 #[.val (.int v6), .val (.int v7)] [(.int (256 : Int32)), (.int v6)])) (g' := (mkF m 49 #[.val (.int v11), .val (.int v12)] [])) X104 (by
      by_cases hc38_8 : (256 : Int32) < v6
      · have hgo105 : ∀ t, Steps p.tables e below (T104.setTop (mkF m 49 #[.val (.int v10), .val (.int v9)] [])) t → Steps p.tables e below (T104.setTop (mkF m 38 #[.val (.int v6), .val (.int v7)] [(.int (256 : Int32)), (.int v6)])) t := by
          intro t kt
          show Steps p.tables e below (T104.setTop (mkF m 38 #[.val (.int v6), .val (.int v7)] [(.int (256 : Int32)), (.int v6)])) _
          refine XS.icmpNo X104.here hx rfl (hb hby d10_38) rfl (tlt hc38_8).2.2.2 ?_
          show Steps p.tables e below (T104.setTop (mkF m 41 #[.val (.int v6), .val (.int v7)] [])) _
          refine XS.iinc X104.here hx rfl (hb hby d10_41) rfl (l' := #[.val (.int v6), .val (.int (v7 + (8 : Int32)))]) rfl ?_
          rw [← hv9]
          show Steps p.tables e below (T104.setTop (mkF m 44 #[.val (.int v6), .val (.int v9)] [])) _
          refine XS.iloadN X104.here hx rfl (hb hby d10_44) rfl ?_
          refine XS.bipush X104.here hx rfl (hb hby d10_45) ?_
          refine XS.iushr X104.here hx rfl (hb hby d10_47) rfl ?_
          show Steps p.tables e below (T104.setTop (mkF m 48 #[.val (.int v6), .val (.int v9)] [(.int ((v6.toUInt32 >>> ((8 : Int32) &&& 31).toUInt32).toInt32))])) _
          rw [← hv10]
          show Steps p.tables e below (T104.setTop (mkF m 48 #[.val (.int v6), .val (.int v9)] [(.int v10)])) _
          refine XS.istoreN X104.here hx rfl (hb hby d10_48) rfl (l' := #[.val (.int v10), .val (.int v9)]) rfl ?_
          exact kt
        refine own_arm hgo105 ?_
        exact own_armEnd X104 N104 e104 (by rw [hv11.trans (if_pos hc38_8), hv12.trans (if_pos hc38_8)])
      · have hgo106 : ∀ t, Steps p.tables e below (T104.setTop (mkF m 49 #[.val (.int v6), .val (.int v7)] [])) t → Steps p.tables e below (T104.setTop (mkF m 38 #[.val (.int v6), .val (.int v7)] [(.int (256 : Int32)), (.int v6)])) t := by
          intro t kt
          show Steps p.tables e below (T104.setTop (mkF m 38 #[.val (.int v6), .val (.int v7)] [(.int (256 : Int32)), (.int v6)])) _
          refine XS.icmpYes X104.here hx rfl (pc0 := 38) (pc' := 49) rfl (hb hby d10_38) rfl (flt hc38_8).2.2.2 (by decide) (by decide) ?_
          exact kt
        refine own_arm hgo106 ?_
        exact own_armEnd X104 N104 e104 (by rw [hv11.trans (if_neg hc38_8), hv12.trans (if_neg hc38_8)]))
    obtain ⟨v14, hv14⟩ : ∃ z : Int32, z = (v12 + (4 : Int32)) := ⟨_, rfl⟩
    obtain ⟨v15, hv15⟩ : ∃ z : Int32, z = ((v11.toUInt32 >>> ((4 : Int32) &&& 31).toUInt32).toInt32) := ⟨_, rfl⟩
    obtain ⟨v16, hv16⟩ : ∃ z : Int32, z = (if (16 : Int32) < v11 then v15 else v11) := ⟨_, rfl⟩
    obtain ⟨v17, hv17⟩ : ∃ z : Int32, z = (if (16 : Int32) < v11 then v14 else v12) := ⟨_, rfl⟩
    obtain ⟨T110, lc110, X110, N110, e110, st110⟩ := own_mrg (n0 := n0) (h := h0) (g := (mkF m 52 #[.val (.int v11), .val (.int v12)] [(.int (16 : Int32)), (.int v11)])) (g' := (mkF m 62 #[.val (.int v16), .val (.int v17)] [])) X107 (by
      by_cases hc52_13 : (16 : Int32) < v11
      · have hgo108 : ∀ t, Steps p.tables e below (T107.setTop (mkF m 62 #[.val (.int v15), .val (.int v14)] [])) t → Steps p.tables e below (T107.setTop (mkF m 52 #[.val (.int v11), .val (.int v12)] [(.int (16 : Int32)), (.int v11)])) t := by
          intro t kt
          show Steps p.tables e below (T107.setTop (mkF m 52 #[.val (.int v11), .val (.int v12)] [(.int (16 : Int32)), (.int v11)])) _
          refine XS.icmpNo X107.here hx rfl (hb hby d10_52) rfl (tlt hc52_13).2.2.2 ?_
          show Steps p.tables e below (T107.setTop (mkF m 55 #[.val (.int v11), .val (.int v12)] [])) _
          refine XS.iinc X107.here hx rfl (hb hby d10_55) rfl (l' := #[.val (.int v11), .val (.int (v12 + (4 : Int32)))]) rfl ?_
          rw [← hv14]
          show Steps p.tables e below (T107.setTop (mkF m 58 #[.val (.int v11), .val (.int v14)] [])) _
          refine XS.iloadN X107.here hx rfl (hb hby d10_58) rfl ?_
          refine XS.iconst X107.here hx rfl (hb hby d10_59) ?_
          refine XS.iushr X107.here hx rfl (hb hby d10_60) rfl ?_
          show Steps p.tables e below (T107.setTop (mkF m 61 #[.val (.int v11), .val (.int v14)] [(.int ((v11.toUInt32 >>> ((4 : Int32) &&& 31).toUInt32).toInt32))])) _
          rw [← hv15]
          show Steps p.tables e below (T107.setTop (mkF m 61 #[.val (.int v11), .val (.int v14)] [(.int v15)])) _
          refine XS.istoreN X107.here hx rfl (hb hby d10_61) rfl (l' := #[.val (.int v15), .val (.int v14)]) rfl ?_
          exact kt
        refine own_arm hgo108 ?_
        exact own_armEnd X107 N107 e107 (by rw [hv16.trans (if_pos hc52_13), hv17.trans (if_pos hc52_13)])
      · have hgo109 : ∀ t, Steps p.tables e below (T107.setTop (mkF m 62 #[.val (.int v11), .val (.int v12)] [])) t → Steps p.tables e below (T107.setTop (mkF m 52 #[.val (.int v11), .val (.int v12)] [(.int (16 : Int32)), (.int v11)])) t := by
          intro t kt
          show Steps p.tables e below (T107.setTop (mkF m 52 #[.val (.int v11), .val (.int v12)] [(.int (16 : Int32)), (.int v11)])) _
          refine XS.icmpYes X107.here hx rfl (pc0 := 52) (pc' := 62) rfl (hb hby d10_52) rfl (flt hc52_13).2.2.2 (by decide) (by decide) ?_
          exact kt
        refine own_arm hgo109 ?_
        exact own_armEnd X107 N107 e107 (by rw [hv16.trans (if_neg hc52_13), hv17.trans (if_neg hc52_13)]))
    obtain ⟨v19, hv19⟩ : ∃ z : Int32, z = (v17 + (2 : Int32)) := ⟨_, rfl⟩
    obtain ⟨v20, hv20⟩ : ∃ z : Int32, z = ((v16.toUInt32 >>> ((2 : Int32) &&& 31).toUInt32).toInt32) := ⟨_, rfl⟩
    obtain ⟨v21, hv21⟩ : ∃ z : Int32, z = (if (4 : Int32) < v16 then v20 else v16) := ⟨_, rfl⟩
    obtain ⟨v22, hv22⟩ : ∃ z : Int32, z = (if (4 : Int32) < v16 then v19 else v17) := ⟨_, rfl⟩
    obtain ⟨T113, lc113, X113, N113, e113, st113⟩ := own_mrg (n0 := n0) (h := h0) (g := (mkF m 64 #[.val (.int v16), .val (.int v17)] [(.int (4 : Int32)), (.int v16)])) (g' := (mkF m 74 #[.val (.int v21), .val (.int v22)] [])) X110 (by
      by_cases hc64_18 : (4 : Int32) < v16
      · have hgo111 : ∀ t, Steps p.tables e below (T110.setTop (mkF m 74 #[.val (.int v20), .val (.int v19)] [])) t → Steps p.tables e below (T110.setTop (mkF m 64 #[.val (.int v16), .val (.int v17)] [(.int (4 : Int32)), (.int v16)])) t := by
          intro t kt
          show Steps p.tables e below (T110.setTop (mkF m 64 #[.val (.int v16), .val (.int v17)] [(.int (4 : Int32)), (.int v16)])) _
          refine XS.icmpNo X110.here hx rfl (hb hby d10_64) rfl (tlt hc64_18).2.2.2 ?_
          show Steps p.tables e below (T110.setTop (mkF m 67 #[.val (.int v16), .val (.int v17)] [])) _
          refine XS.iinc X110.here hx rfl (hb hby d10_67) rfl (l' := #[.val (.int v16), .val (.int (v17 + (2 : Int32)))]) rfl ?_
          rw [← hv19]
          show Steps p.tables e below (T110.setTop (mkF m 70 #[.val (.int v16), .val (.int v19)] [])) _
          refine XS.iloadN X110.here hx rfl (hb hby d10_70) rfl ?_
          refine XS.iconst X110.here hx rfl (hb hby d10_71) ?_
          refine XS.iushr X110.here hx rfl (hb hby d10_72) rfl ?_
          show Steps p.tables e below (T110.setTop (mkF m 73 #[.val (.int v16), .val (.int v19)] [(.int ((v16.toUInt32 >>> ((2 : Int32) &&& 31).toUInt32).toInt32))])) _
          rw [← hv20]
          show Steps p.tables e below (T110.setTop (mkF m 73 #[.val (.int v16), .val (.int v19)] [(.int v20)])) _
          refine XS.istoreN X110.here hx rfl (hb hby d10_73) rfl (l' := #[.val (.int v20), .val (.int v19)]) rfl ?_
          exact kt
        refine own_arm hgo111 ?_
        exact own_armEnd X110 N110 e110 (by rw [hv21.trans (if_pos hc64_18), hv22.trans (if_pos hc64_18)])
      · have hgo112 : ∀ t, Steps p.tables e below (T110.setTop (mkF m 74 #[.val (.int v16), .val (.int v17)] [])) t → Steps p.tables e below (T110.setTop (mkF m 64 #[.val (.int v16), .val (.int v17)] [(.int (4 : Int32)), (.int v16)])) t := by
          intro t kt
          show Steps p.tables e below (T110.setTop (mkF m 64 #[.val (.int v16), .val (.int v17)] [(.int (4 : Int32)), (.int v16)])) _
          refine XS.icmpYes X110.here hx rfl (pc0 := 64) (pc' := 74) rfl (hb hby d10_64) rfl (flt hc64_18).2.2.2 (by decide) (by decide) ?_
          exact kt
        refine own_arm hgo112 ?_
        exact own_armEnd X110 N110 e110 (by rw [hv21.trans (if_neg hc64_18), hv22.trans (if_neg hc64_18)]))
    obtain ⟨v23, hv23⟩ : ∃ z : Int32, z = (v22 + ((v21.toUInt32 >>> ((1 : Int32) &&& 31).toUInt32).toInt32)) := ⟨_, rfl⟩
    have hgo114 : ∀ t, Steps p.tables e below (T113.setTop (mkF m 79 #[.val (.int v21), .val (.int v22)] [(.int v23)])) t → Steps p.tables e below (s₁.setTop (mkF m 9 #[.val (.int v1), .unset] [(.int v1)])) t := by
      intro t kt
      show Steps p.tables e below (s₁.setTop (mkF m 9 #[.val (.int v1), .unset] [(.int v1)])) _
      refine XS.ifYes X0.here hx rfl (pc0 := 9) (pc' := 17) rfl (hb hby d10_9) rfl ((if0 _ _).trans (tlt hc9_2).2.2.1) (by decide) (by decide) ?_
      show Steps p.tables e below (s₁.setTop (mkF m 17 #[.val (.int v1), .unset] [])) _
      refine XS.iconst X0.here hx rfl (hb hby d10_17) ?_
      refine XS.istoreN X0.here hx rfl (hb hby d10_18) rfl (l' := #[.val (.int v1), .val (.int (1 : Int32))]) rfl ?_
      show Steps p.tables e below (s₁.setTop (mkF m 19 #[.val (.int v1), .val (.int (1 : Int32))] [])) _
      refine XS.iloadN X0.here hx rfl (hb hby d10_19) rfl ?_
      show Steps p.tables e below (s₁.setTop (mkF m 20 #[.val (.int v1), .val (.int (1 : Int32))] [(.int v1)])) _
      refine X0.ldcwInt hx hown (mvT hZ (hw _ (List.mem_of_getElem? (i := 59) rfl))) (g := (mkF m 20 #[.val (.int v1), .val (.int (1 : Int32))] [(.int v1)])) rfl (hb hby d10_20) _ ?_
      show Steps p.tables e below (s₁.setTop (mkF m 23 #[.val (.int v1), .val (.int (1 : Int32))] [(.int (65536 : Int32)), (.int v1)])) _
      refine st104 _ ?_
      show Steps p.tables e below (T104.setTop (mkF m 34 #[.val (.int v6), .val (.int v7)] [])) _
      refine XS.iloadN X104.here hx rfl (hb hby d10_34) rfl ?_
      refine XS.sipush X104.here hx rfl (hb hby d10_35) ?_
      show Steps p.tables e below (T104.setTop (mkF m 38 #[.val (.int v6), .val (.int v7)] [(.int (256 : Int32)), (.int v6)])) _
      refine st107 _ ?_
      show Steps p.tables e below (T107.setTop (mkF m 49 #[.val (.int v11), .val (.int v12)] [])) _
      refine XS.iloadN X107.here hx rfl (hb hby d10_49) rfl ?_
      refine XS.bipush X107.here hx rfl (hb hby d10_50) ?_
      show Steps p.tables e below (T107.setTop (mkF m 52 #[.val (.int v11), .val (.int v12)] [(.int (16 : Int32)), (.int v11)])) _
      refine st110 _ ?_
      show Steps p.tables e below (T110.setTop (mkF m 62 #[.val (.int v16), .val (.int v17)] [])) _
      refine XS.iloadN X110.here hx rfl (hb hby d10_62) rfl ?_
      refine XS.iconst X110.here hx rfl (hb hby d10_63) ?_
      show Steps p.tables e below (T110.setTop (mkF m 64 #[.val (.int v16), .val (.int v17)] [(.int (4 : Int32)), (.int v16)])) _
      refine st113 _ ?_
      show Steps p.tables e below (T113.setTop (mkF m 74 #[.val (.int v21), .val (.int v22)] [])) _
      refine XS.iloadN X113.here hx rfl (hb hby d10_74) rfl ?_
      refine XS.iloadN X113.here hx rfl (hb hby d10_75) rfl ?_
      refine XS.iconst X113.here hx rfl (hb hby d10_76) ?_
      show Steps p.tables e below (T113.setTop (mkF m 77 #[.val (.int v21), .val (.int v22)] [(.int (1 : Int32)), (.int v21), (.int v22)])) _
      refine XS.iushr X113.here hx rfl (hb hby d10_77) rfl ?_
      show Steps p.tables e below (T113.setTop (mkF m 78 #[.val (.int v21), .val (.int v22)] [(.int ((v21.toUInt32 >>> ((1 : Int32) &&& 31).toUInt32).toInt32)), (.int v22)])) _
      refine XS.iadd X113.here hx rfl (hb hby d10_78) rfl ?_
      rw [← hv23]
      exact kt
    refine own_go hgo114 ?_
    exact own_retI X113 hx Bd.returns Bd.notSynchronized (hb hby d10_79) (by decide) (by decide) (by rw [e113]; exact ⟨(by obtain rfl : v1 = (own_rnt_v1 p0) := hv1; obtain rfl : v4 = (own_rnt_v4 p0) := hv4; obtain rfl : v5 = (own_rnt_v5 p0) := hv5; obtain rfl : v6 = (own_rnt_v6 p0) := hv6; obtain rfl : v7 = (own_rnt_v7 p0) := hv7; obtain rfl : v9 = (own_rnt_v9 p0) := hv9; obtain rfl : v10 = (own_rnt_v10 p0) := hv10; obtain rfl : v11 = (own_rnt_v11 p0) := hv11; obtain rfl : v12 = (own_rnt_v12 p0) := hv12; obtain rfl : v14 = (own_rnt_v14 p0) := hv14; obtain rfl : v15 = (own_rnt_v15 p0) := hv15; obtain rfl : v16 = (own_rnt_v16 p0) := hv16; obtain rfl : v17 = (own_rnt_v17 p0) := hv17; obtain rfl : v19 = (own_rnt_v19 p0) := hv19; obtain rfl : v20 = (own_rnt_v20 p0) := hv20; obtain rfl : v21 = (own_rnt_v21 p0) := hv21; obtain rfl : v22 = (own_rnt_v22 p0) := hv22; obtain rfl : v23 = (own_rnt_v23 p0) := hv23; rw [own_rnt, if_pos hc9_2]), N113, rfl⟩)
  · obtain ⟨v24, hv24⟩ : ∃ z : Int32, z = (v1 &&& (32 : Int32)) := ⟨_, rfl⟩
    have hgo115 : ∀ t, Steps p.tables e below (s₁.setTop (mkF m 16 #[.val (.int v1), .unset] [(.int v24)])) t → Steps p.tables e below (s₁.setTop (mkF m 9 #[.val (.int v1), .unset] [(.int v1)])) t := by
      intro t kt
      show Steps p.tables e below (s₁.setTop (mkF m 9 #[.val (.int v1), .unset] [(.int v1)])) _
      refine XS.ifNo X0.here hx rfl (hb hby d10_9) rfl ((if0 _ _).trans (flt hc9_2).2.2.1) ?_
      show Steps p.tables e below (s₁.setTop (mkF m 12 #[.val (.int v1), .unset] [])) _
      refine XS.iloadN X0.here hx rfl (hb hby d10_12) rfl ?_
      refine XS.bipush X0.here hx rfl (hb hby d10_13) ?_
      show Steps p.tables e below (s₁.setTop (mkF m 15 #[.val (.int v1), .unset] [(.int (32 : Int32)), (.int v1)])) _
      refine XS.iand X0.here hx rfl (hb hby d10_15) rfl ?_
      rw [← hv24]
      exact kt
    refine own_go hgo115 ?_
    exact own_retI X0 hx Bd.returns Bd.notSynchronized (hb hby d10_16) (by decide) (by decide) (by rw [e0]; exact ⟨(by obtain rfl : v1 = (own_rnt_v1 p0) := hv1; obtain rfl : v24 = (own_rnt_v24 p0) := hv24; rw [own_rnt, if_neg hc9_2]), N0, rfl⟩)
theorem pd1 : parseMethodDescriptor "(I)I" = some ⟨[.int], some .int⟩ := by decide +kernel
theorem d9_0 : decode jdk_35_method_49_code 0 = .ok (.lload_n 0, 1) := by decide +kernel
theorem d9_1 : decode jdk_35_method_49_code 1 = .ok (.l2i, 1) := by decide +kernel
theorem d9_2 : decode jdk_35_method_49_code 2 = .ok (.istore_n 2, 1) := by decide +kernel
theorem d9_3 : decode jdk_35_method_49_code 3 = .ok (.iload_n 2, 1) := by decide +kernel
theorem d9_4 : decode jdk_35_method_49_code 4 = .ok (.ifCond .ne 17, 3) := by decide +kernel
theorem d9_7 : decode jdk_35_method_49_code 7 = .ok (.bipush 32, 2) := by decide +kernel
theorem d9_9 : decode jdk_35_method_49_code 9 = .ok (.lload_n 0, 1) := by decide +kernel
theorem d9_10 : decode jdk_35_method_49_code 10 = .ok (.bipush 32, 2) := by decide +kernel
theorem d9_12 : decode jdk_35_method_49_code 12 = .ok (.lushr, 1) := by decide +kernel
theorem d9_13 : decode jdk_35_method_49_code 13 = .ok (.l2i, 1) := by decide +kernel
theorem d9_14 : decode jdk_35_method_49_code 14 = .ok (.invokestatic 311, 3) := by decide +kernel
theorem d9_17 : decode jdk_35_method_49_code 17 = .ok (.iadd, 1) := by decide +kernel
theorem d9_18 : decode jdk_35_method_49_code 18 = .ok (.goto 7, 3) := by decide +kernel
theorem d9_21 : decode jdk_35_method_49_code 21 = .ok (.iload_n 2, 1) := by decide +kernel
theorem d9_22 : decode jdk_35_method_49_code 22 = .ok (.invokestatic 311, 3) := by decide +kernel
theorem d9_25 : decode jdk_35_method_49_code 25 = .ok (.ireturn, 1) := by decide +kernel
theorem ef_nL (m : MethodId) (q0 : Int64) : entryFrame m #[(.long q0)] 3 = mkF m 0 #[.val (.long q0), .second, .unset] [] := by (first | (simp [entryFrame, mkF, argsToLocals, Value.category]; done) | rfl)
def own_rnL (q0 : Int64) : Int32 := (if (q0.toInt32) = (0 : Int32) then ((32 : Int32) + (own_rnt (((q0.toUInt64 >>> ((32 : Int32) &&& 0x3f).toInt64.toUInt64).toInt64).toInt32))) else (own_rnt (q0.toInt32)))
theorem pn2 : plainName "java/lang/Long" = true := by first | (simp [plainName, overriddenIn]; done) | decide +kernel
def QnL (Z : State) (q0 : Int64) (h0 : Heap) (n0 : Nat) (v : Option Value) (h : Heap) (L : List Loc) : Prop := v = some (.int (own_rnL q0)) ∧ Fr n0 L ∧ h = h0
set_option maxRecDepth 65536 in
set_option maxHeartbeats 40000000 in
theorem rmnL (l : Launch) (Z : State) (a0 : Array Value) (hw : ∀ d ∈ tables_1, d.before a0 Z = true) (ws : List Jvm.Cond) (q0 : Int64) (h0 : Heap) (n0 : Nat) (Z0 : n0 ≤ h0.size) :
    MetFree l (⟨"java/lang/Long", "numberOfTrailingZeros", "(J)I"⟩ : MethodName) (head1 (Jvm.Cond.code (⟨"java/lang/Long", "numberOfTrailingZeros", "(J)I"⟩ : MethodName) jdk_35_method_49_code 3 (some .int) :: ws) ({ frames := 1, cells := 0, slots := 0, locals := 14 } : Room)) (fun a U => a = #[(.long q0)] ∧ Z.Warmed39 U.vm ∧ U.heap = h0) (fun _ _ _ _ _ => True) (fun _ U o U' => ∃ v L, o = .returned v ∧ QnL Z q0 h0 n0 v U'.heap L ∧ FrameEnd U o U' L ({ frames := 1, cells := 0, slots := 0, locals := 14 } : Room).cells ({ frames := 1, cells := 0, slots := 0, locals := 14 } : Room).slots) := by
  refine MetFree.of_bodySF (plainFor_of_name pn2) hisR ?_
  intro p e s m args below meth c s₁ Bd hml0 hP hK
  obtain ⟨rfl, hZ, hh⟩ := hP
  have hx := Bd.exec
  have hby := Bd.bytes
  have hml : c.maxLocals = 3 := hml0
  have hown : s.vm.findClass "java/lang/Long" = some m.cls := findClass_of_methodNamed Bd.named
  have hnm := (name_of_methodNamed Bd.named Bd.method).1
  have X0 : Stand p l e ({ frames := 1, cells := 0, slots := 0, locals := 14 } : Room) s m #[(.long q0)] below meth c s₁ [] 0 0 := Stand.of_body Bd
  have e0 : s₁.heap = h0 := by rw [← hh, Bd.state]; rfl
  have N0 := Fr.nil n0
  have K0 : Keep h0 h0 [] := Keep.refl h0 _
  show own_Go p e below s (QnL Z q0 h0 n0) ({ frames := 1, cells := 0, slots := 0, locals := 14 } : Room).cells ({ frames := 1, cells := 0, slots := 0, locals := 14 } : Room).slots (s₁.setTop (entryFrame m #[(.long q0)] 3))
  refine own_go (fun t k => castTop (ef_nL m q0) k) ?_
  obtain ⟨v1, hv1⟩ : ∃ z : Int32, z = (q0.toInt32) := ⟨_, rfl⟩
  obtain ⟨v3, hv3⟩ : ∃ z : Int32, z = (((q0.toUInt64 >>> ((32 : Int32) &&& 0x3f).toInt64.toUInt64).toInt64).toInt32) := ⟨_, rfl⟩
  obtain ⟨v4, hv4⟩ : ∃ z : Int32, z = (if v1 = (0 : Int32) then ((32 : Int32) + (own_rnt v3)) else (own_rnt v1)) := ⟨_, rfl⟩
  obtain ⟨T105, lc105, X105, N105, e105, st105⟩ := own_mrg (n0 := n0) (h := h0) (g := (mkF m 4 #[.val (.long q0), .second, .val (.int v1)] [(.int v1)])) (g' := (mkF m 25 #[.val (.long q0), .second, .val (.int v1)] [(.int v4)])) X0 (by
    by_cases hc4_2 : v1 = (0 : Int32)
    · obtain ⟨_, _, ⟨T101, L101, k101, n101⟩, -, X101, ⟨Lc101, hQ101, l101, y101, z101⟩, st101⟩ := Jvm.LawKit.callS X0 hx (y := (⟨"java/lang/Integer", "numberOfTrailingZeros", "(I)I"⟩ : MethodName)) hown (mvT hZ (hw _ (List.mem_of_getElem? (i := 55) rfl))) (mvT hZ (hw _ (List.mem_of_getElem? (i := 56) rfl))) (mvT hZ (hw _ (List.mem_of_getElem? (i := 57) rfl))) (mvT hZ (hw _ (List.mem_of_getElem? (i := 58) rfl))) (by decide) (backOf (W := 1) (rmnt l Z a0 hw [] v3 h0 n0 Z0 ) hZ (hw _ (List.mem_of_getElem? (i := 58) rfl)) (hw _ (List.mem_of_getElem? (i := 57) rfl)) (by decide) (by decide)) (g := (mkF m 14 #[.val (.long q0), .second, .val (.int v1)] [(.int v3), (.int (32 : Int32))])) rfl (by rw [hml]; rfl) (argsL := [(.int v3)]) (rest := [(.int (32 : Int32))]) (lenOf pd1 rfl) rfl (by show 2 * 0 + _ ≤ _; exact Nat.le_of_eq rfl) (hb hby d9_14) (fun _ _ => ⟨rfl, e0, (by decide : 0 + 0 ≤ _), (by decide : 0 + 0 ≤ _)⟩)
      dsimp only [Pt.U, Pt.locs, Pt.cells, Pt.slots] at X101 l101 y101 z101 st101 hQ101
      subst l101 y101 z101
      obtain ⟨rfl, N101q, e101⟩ := hQ101
      have N101 := Fr.app N0 N101q
      have hgo102 : ∀ t, Steps p.tables e below (T101.setTop (mkF m 25 #[.val (.long q0), .second, .val (.int v1)] [(.int ((32 : Int32) + (own_rnt v3)))])) t → Steps p.tables e below (s₁.setTop (mkF m 4 #[.val (.long q0), .second, .val (.int v1)] [(.int v1)])) t := by
        intro t kt
        show Steps p.tables e below (s₁.setTop (mkF m 4 #[.val (.long q0), .second, .val (.int v1)] [(.int v1)])) _
        refine XS.ifNo X0.here hx rfl (hb hby d9_4) rfl ((if0 _ _).trans (teq hc4_2).2) ?_
        show Steps p.tables e below (s₁.setTop (mkF m 7 #[.val (.long q0), .second, .val (.int v1)] [])) _
        refine XS.bipush X0.here hx rfl (hb hby d9_7) ?_
        refine XS.lloadN X0.here hx rfl (hb hby d9_9) rfl ?_
        refine XS.bipush X0.here hx rfl (hb hby d9_10) ?_
        show Steps p.tables e below (s₁.setTop (mkF m 12 #[.val (.long q0), .second, .val (.int v1)] [(.int (32 : Int32)), (.long q0), (.int (32 : Int32))])) _
        refine XS.lushr X0.here hx rfl (hb hby d9_12) rfl ?_
        show Steps p.tables e below (s₁.setTop (mkF m 13 #[.val (.long q0), .second, .val (.int v1)] [(.long ((q0.toUInt64 >>> ((32 : Int32) &&& 0x3f).toInt64.toUInt64).toInt64)), (.int (32 : Int32))])) _
        refine XS.l2i X0.here hx rfl (hb hby d9_13) rfl ?_
        show Steps p.tables e below (s₁.setTop (mkF m 14 #[.val (.long q0), .second, .val (.int v1)] [(.int (((q0.toUInt64 >>> ((32 : Int32) &&& 0x3f).toInt64.toUInt64).toInt64).toInt32)), (.int (32 : Int32))])) _
        rw [← hv3]
        show Steps p.tables e below (s₁.setTop (mkF m 14 #[.val (.long q0), .second, .val (.int v1)] [(.int v3), (.int (32 : Int32))])) _
        refine st101 _ ?_
        show Steps p.tables e below (T101.setTop (mkF m 17 #[.val (.long q0), .second, .val (.int v1)] [(.int (own_rnt v3)), (.int (32 : Int32))])) _
        refine XS.iadd X101.here hx rfl (hb hby d9_17) rfl ?_
        show Steps p.tables e below (T101.setTop (mkF m 18 #[.val (.long q0), .second, .val (.int v1)] [(.int ((32 : Int32) + (own_rnt v3)))])) _
        refine XS.goto X101.here hx rfl (pc0 := 18) (pc' := 25) rfl (hb hby d9_18) (by decide) (by decide) ?_
        exact kt
      refine own_arm hgo102 ?_
      exact own_armEnd X101 N101 e101 (by rw [hv4.trans (if_pos hc4_2)])
    · obtain ⟨_, _, ⟨T103, L103, k103, n103⟩, -, X103, ⟨Lc103, hQ103, l103, y103, z103⟩, st103⟩ := Jvm.LawKit.callS X0 hx (y := (⟨"java/lang/Integer", "numberOfTrailingZeros", "(I)I"⟩ : MethodName)) hown (mvT hZ (hw _ (List.mem_of_getElem? (i := 55) rfl))) (mvT hZ (hw _ (List.mem_of_getElem? (i := 56) rfl))) (mvT hZ (hw _ (List.mem_of_getElem? (i := 57) rfl))) (mvT hZ (hw _ (List.mem_of_getElem? (i := 58) rfl))) (by decide) (backOf (W := 0) (rmnt l Z a0 hw [] v1 h0 n0 Z0 ) hZ (hw _ (List.mem_of_getElem? (i := 58) rfl)) (hw _ (List.mem_of_getElem? (i := 57) rfl)) (by decide) (by decide)) (g := (mkF m 22 #[.val (.long q0), .second, .val (.int v1)] [(.int v1)])) rfl (by rw [hml]; rfl) (argsL := [(.int v1)]) (rest := []) (lenOf pd1 rfl) rfl (by show 2 * 0 + _ ≤ _; exact Nat.le_of_eq rfl) (hb hby d9_22) (fun _ _ => ⟨rfl, e0, (by decide : 0 + 0 ≤ _), (by decide : 0 + 0 ≤ _)⟩)
      dsimp only [Pt.U, Pt.locs, Pt.cells, Pt.slots] at X103 l103 y103 z103 st103 hQ103
      subst l103 y103 z103
      obtain ⟨rfl, N103q, e103⟩ := hQ103
      have N103 := Fr.app N0 N103q
      have hgo104 : ∀ t, Steps p.tables e below (T103.setTop (mkF m 25 #[.val (.long q0), .second, .val (.int v1)] [(.int (own_rnt v1))])) t → Steps p.tables e below (s₁.setTop (mkF m 4 #[.val (.long q0), .second, .val (.int v1)] [(.int v1)])) t := by
        intro t kt
        show Steps p.tables e below (s₁.setTop (mkF m 4 #[.val (.long q0), .second, .val (.int v1)] [(.int v1)])) _
        refine XS.ifYes X0.here hx rfl (pc0 := 4) (pc' := 21) rfl (hb hby d9_4) rfl ((if0 _ _).trans (feq hc4_2).2) (by decide) (by decide) ?_
        show Steps p.tables e below (s₁.setTop (mkF m 21 #[.val (.long q0), .second, .val (.int v1)] [])) _
        refine XS.iloadN X0.here hx rfl (hb hby d9_21) rfl ?_
        show Steps p.tables e below (s₁.setTop (mkF m 22 #[.val (.long q0), .second, .val (.int v1)] [(.int v1)])) _
        refine st103 _ ?_
        exact kt
      refine own_arm hgo104 ?_
      exact own_armEnd X103 N103 e103 (by rw [hv4.trans (if_neg hc4_2)]))
  have hgo106 : ∀ t, Steps p.tables e below (T105.setTop (mkF m 25 #[.val (.long q0), .second, .val (.int v1)] [(.int v4)])) t → Steps p.tables e below (s₁.setTop (mkF m 0 #[.val (.long q0), .second, .unset] [])) t := by
    intro t kt
    show Steps p.tables e below (s₁.setTop (mkF m 0 #[.val (.long q0), .second, .unset] [])) _
    refine XS.lloadN X0.here hx rfl (hb hby d9_0) rfl ?_
    refine XS.l2i X0.here hx rfl (hb hby d9_1) rfl ?_
    show Steps p.tables e below (s₁.setTop (mkF m 2 #[.val (.long q0), .second, .unset] [(.int (q0.toInt32))])) _
    rw [← hv1]
    show Steps p.tables e below (s₁.setTop (mkF m 2 #[.val (.long q0), .second, .unset] [(.int v1)])) _
    refine XS.istoreN X0.here hx rfl (hb hby d9_2) rfl (l' := #[.val (.long q0), .second, .val (.int v1)]) rfl ?_
    show Steps p.tables e below (s₁.setTop (mkF m 3 #[.val (.long q0), .second, .val (.int v1)] [])) _
    refine XS.iloadN X0.here hx rfl (hb hby d9_3) rfl ?_
    show Steps p.tables e below (s₁.setTop (mkF m 4 #[.val (.long q0), .second, .val (.int v1)] [(.int v1)])) _
    refine st105 _ ?_
    exact kt
  refine own_go hgo106 ?_
  exact own_retI X105 hx Bd.returns Bd.notSynchronized (hb hby d9_25) (by decide) (by decide) (by rw [e105]; exact ⟨(by subst hv4 hv3 hv1; rw [own_rnL]), N105, rfl⟩)
theorem d1_0 : decode jdk_29_method_66_code 0 = .ok (.lload_n 0, 1) := by decide +kernel
theorem d1_1 : decode jdk_29_method_66_code 1 = .ok (.lload_n 2, 1) := by decide +kernel
theorem d1_2 : decode jdk_29_method_66_code 2 = .ok (.lcmp, 1) := by decide +kernel
theorem d1_3 : decode jdk_29_method_66_code 3 = .ok (.ifCond .lt 7, 3) := by decide +kernel
theorem d1_6 : decode jdk_29_method_66_code 6 = .ok (.lload_n 0, 1) := by decide +kernel
theorem d1_7 : decode jdk_29_method_66_code 7 = .ok (.goto 4, 3) := by decide +kernel
theorem d1_10 : decode jdk_29_method_66_code 10 = .ok (.lload_n 2, 1) := by decide +kernel
theorem d1_11 : decode jdk_29_method_66_code 11 = .ok (.lreturn, 1) := by decide +kernel
theorem ef_mx (m : MethodId) (q0 : Int64) (q1 : Int64) : entryFrame m #[(.long q0), (.long q1)] 4 = mkF m 0 #[.val (.long q0), .second, .val (.long q1), .second] [] := by (first | (simp [entryFrame, mkF, argsToLocals, Value.category]; done) | rfl)
def own_rmx (q0 : Int64) (q1 : Int64) : Int64 := (if q0 < q1 then q1 else q0)
def Qmx (Z : State) (q0 : Int64) (q1 : Int64) (h0 : Heap) (n0 : Nat) (v : Option Value) (h : Heap) (L : List Loc) : Prop := v = some (.long (own_rmx q0 q1)) ∧ Fr n0 L ∧ h = h0
set_option maxRecDepth 65536 in
set_option maxHeartbeats 40000000 in
theorem rmmx (l : Launch) (Z : State) (a0 : Array Value) (hw : ∀ d ∈ tables_1, d.before a0 Z = true) (ws : List Jvm.Cond) (q0 : Int64) (q1 : Int64) (h0 : Heap) (n0 : Nat) (Z0 : n0 ≤ h0.size) :
    MetFree l (⟨"java/lang/Math", "max", "(JJ)J"⟩ : MethodName) (head1 (Jvm.Cond.code (⟨"java/lang/Math", "max", "(JJ)J"⟩ : MethodName) jdk_29_method_66_code 4 (some .long) :: ws) ({ frames := 0, cells := 0, slots := 0, locals := 0 } : Room)) (fun a U => a = #[(.long q0), (.long q1)] ∧ Z.Warmed39 U.vm ∧ U.heap = h0) (fun _ _ _ _ _ => True) (fun _ U o U' => ∃ v L, o = .returned v ∧ Qmx Z q0 q1 h0 n0 v U'.heap L ∧ FrameEnd U o U' L ({ frames := 0, cells := 0, slots := 0, locals := 0 } : Room).cells ({ frames := 0, cells := 0, slots := 0, locals := 0 } : Room).slots) := by
  refine MetFree.of_bodySF (Jvm.Free.JP.mathPlain rfl (by decide +kernel)) hisR ?_
  intro p e s m args below meth c s₁ Bd hml0 hP hK
  obtain ⟨rfl, hZ, hh⟩ := hP
  have hx := Bd.exec
  have hby := Bd.bytes
  have hml : c.maxLocals = 4 := hml0
  have hown : s.vm.findClass "java/lang/Math" = some m.cls := findClass_of_methodNamed Bd.named
  have hnm := (name_of_methodNamed Bd.named Bd.method).1
  have X0 : Stand p l e ({ frames := 0, cells := 0, slots := 0, locals := 0 } : Room) s m #[(.long q0), (.long q1)] below meth c s₁ [] 0 0 := Stand.of_body Bd
  have e0 : s₁.heap = h0 := by rw [← hh, Bd.state]; rfl
  have N0 := Fr.nil n0
  have K0 : Keep h0 h0 [] := Keep.refl h0 _
  show own_Go p e below s (Qmx Z q0 q1 h0 n0) ({ frames := 0, cells := 0, slots := 0, locals := 0 } : Room).cells ({ frames := 0, cells := 0, slots := 0, locals := 0 } : Room).slots (s₁.setTop (entryFrame m #[(.long q0), (.long q1)] 4))
  refine own_go (fun t k => castTop (ef_mx m q0 q1) k) ?_
  obtain ⟨v2, hv2⟩ : ∃ z : Int64, z = (if q0 < q1 then q1 else q0) := ⟨_, rfl⟩
  obtain ⟨T103, lc103, X103, N103, e103, st103⟩ := own_mrg (n0 := n0) (h := h0) (g := (mkF m 3 #[.val (.long q0), .second, .val (.long q1), .second] [(.int (lcmpW q0 q1))])) (g' := (mkF m 11 #[.val (.long q0), .second, .val (.long q1), .second] [(.long v2)])) X0 (by
    by_cases hc3_1 : q0 < q1
    · have hgo101 : ∀ t, Steps p.tables e below (s₁.setTop (mkF m 11 #[.val (.long q0), .second, .val (.long q1), .second] [(.long q1)])) t → Steps p.tables e below (s₁.setTop (mkF m 3 #[.val (.long q0), .second, .val (.long q1), .second] [(.int (lcmpW q0 q1))])) t := by
        intro t kt
        show Steps p.tables e below (s₁.setTop (mkF m 3 #[.val (.long q0), .second, .val (.long q1), .second] [(.int (lcmpW q0 q1))])) _
        refine XS.ifYes X0.here hx rfl (pc0 := 3) (pc' := 10) rfl (hb hby d1_3) rfl ((if0 _ _).trans (tlt (own_lc_lt hc3_1)).1) (by decide) (by decide) ?_
        show Steps p.tables e below (s₁.setTop (mkF m 10 #[.val (.long q0), .second, .val (.long q1), .second] [])) _
        refine XS.lloadN X0.here hx rfl (hb hby d1_10) rfl ?_
        exact kt
      refine own_arm hgo101 ?_
      exact own_armEnd X0 N0 e0 (by rw [hv2.trans (if_pos hc3_1)])
    · have hgo102 : ∀ t, Steps p.tables e below (s₁.setTop (mkF m 11 #[.val (.long q0), .second, .val (.long q1), .second] [(.long q0)])) t → Steps p.tables e below (s₁.setTop (mkF m 3 #[.val (.long q0), .second, .val (.long q1), .second] [(.int (lcmpW q0 q1))])) t := by
        intro t kt
        show Steps p.tables e below (s₁.setTop (mkF m 3 #[.val (.long q0), .second, .val (.long q1), .second] [(.int (lcmpW q0 q1))])) _
        refine XS.ifNo X0.here hx rfl (hb hby d1_3) rfl ((if0 _ _).trans (flt (own_lc_nlt hc3_1)).1) ?_
        show Steps p.tables e below (s₁.setTop (mkF m 6 #[.val (.long q0), .second, .val (.long q1), .second] [])) _
        refine XS.lloadN X0.here hx rfl (hb hby d1_6) rfl ?_
        refine XS.goto X0.here hx rfl (pc0 := 7) (pc' := 11) rfl (hb hby d1_7) (by decide) (by decide) ?_
        exact kt
      refine own_arm hgo102 ?_
      exact own_armEnd X0 N0 e0 (by rw [hv2.trans (if_neg hc3_1)]))
  have hgo104 : ∀ t, Steps p.tables e below (T103.setTop (mkF m 11 #[.val (.long q0), .second, .val (.long q1), .second] [(.long v2)])) t → Steps p.tables e below (s₁.setTop (mkF m 0 #[.val (.long q0), .second, .val (.long q1), .second] [])) t := by
    intro t kt
    show Steps p.tables e below (s₁.setTop (mkF m 0 #[.val (.long q0), .second, .val (.long q1), .second] [])) _
    refine XS.lloadN X0.here hx rfl (hb hby d1_0) rfl ?_
    refine XS.lloadN X0.here hx rfl (hb hby d1_1) rfl ?_
    refine XS.lcmp X0.here hx rfl (hb hby d1_2) rfl ?_
    show Steps p.tables e below (s₁.setTop (mkF m 3 #[.val (.long q0), .second, .val (.long q1), .second] [(.int (lcmpW q0 q1))])) _
    refine st103 _ ?_
    exact kt
  refine own_go hgo104 ?_
  exact own_retJ X103 hx Bd.returns Bd.notSynchronized (hb hby d1_11) (by decide) (by decide) (by rw [e103]; exact ⟨(by subst hv2; rw [own_rmx]), N103, rfl⟩)
theorem own_v1 {x : Int32} {t : Nat} (ht : t < 32) (h : x.toBitVec.toNat % 2 ^ (t + 1) = 2 ^ t) : own_rnt_v1 x = Int32.ofNat (2 ^ t - 1) := by
  have key : (own_rnt_v1 x).toBitVec.toNat = 2 ^ t - 1 := by
    have hx : x.toBitVec.toNat < 2 ^ 32 := x.toBitVec.isLt
    obtain ⟨A, hA⟩ : ∃ A, x.toBitVec.toNat = 2 ^ (t + 1) * A + 2 ^ t := ⟨x.toBitVec.toNat / 2 ^ (t + 1), by have := Nat.div_add_mod x.toBitVec.toNat (2 ^ (t + 1)); omega⟩
    have hp : 0 < 2 ^ t := Nat.pow_pos (by decide)
    have h1 : (x - 1).toBitVec.toNat = 2 ^ (t + 1) * A + (2 ^ t - 1) := by
      rw [Int32.toBitVec_sub, BitVec.toNat_sub, hA]
      show (2 ^ 32 - 1 + (2 ^ (t + 1) * A + 2 ^ t)) % 2 ^ 32 = _
      rw [show 2 ^ 32 - 1 + (2 ^ (t + 1) * A + 2 ^ t) = (2 ^ (t + 1) * A + (2 ^ t - 1)) + 2 ^ 32 by omega, Nat.add_mod_right]
      exact Nat.mod_eq_of_lt (by omega)
    apply Nat.eq_of_testBit_eq
    intro j
    have e : (own_rnt_v1 x).toBitVec.toNat.testBit j = ((x.toBitVec.toNat.testBit j ^^ (2 ^ 32 - 1).testBit j) && (x - 1).toBitVec.toNat.testBit j) := by
      show (((x.toBitVec ^^^ (-1 : Int32).toBitVec) &&& (x - 1).toBitVec)).toNat.testBit j = _
      rw [BitVec.toNat_and, Nat.testBit_and, BitVec.toNat_xor, Nat.testBit_xor]
      rfl
    rw [e, h1, hA, Nat.testBit_two_pow_mul_add _ (Nat.pow_lt_pow_right (by decide) (by omega)), Nat.testBit_two_pow_mul_add _ (show 2 ^ t - 1 < 2 ^ (t + 1) by rw [Nat.pow_succ]; omega)]
    rw [Nat.testBit_two_pow_sub_one, Nat.testBit_two_pow_sub_one, Nat.testBit_two_pow]
    by_cases q : j < t + 1
    · rw [if_pos q, if_pos q]
      by_cases q2 : j < t
      · have : ¬ t = j := by omega
        have : j < 32 := by omega
        simp [*]
      · have : t = j := by omega
        have : j < 32 := by omega
        simp [*]
    · rw [if_neg q, if_neg q]
      have : ¬ j < t := by omega
      by_cases q3 : j < 32
      · simp [*]
      · have hA2 : A < 2 ^ (32 - (t + 1)) := by
          have e32 : 2 ^ 32 = 2 ^ (t + 1) * 2 ^ (32 - (t + 1)) := by rw [← Nat.pow_add]; congr 1; omega
          have : 2 ^ (t + 1) * A < 2 ^ (t + 1) * 2 ^ (32 - (t + 1)) := by omega
          exact Nat.lt_of_mul_lt_mul_left this
        have : A.testBit (j - (t + 1)) = false := Nat.testBit_lt_two_pow (Nat.lt_of_lt_of_le hA2 (Nat.pow_le_pow_right (by decide) (by omega)))
        simp [*]
  apply Int32.toBitVec_inj.mp
  apply BitVec.eq_of_toNat_eq
  rw [key]
  have hb : 2 ^ t - 1 < 2 ^ 32 := by have := Nat.pow_lt_pow_right (a := 2) (by decide) ht; omega
  show _ = (BitVec.ofNat 32 (2 ^ t - 1)).toNat
  rw [BitVec.toNat_ofNat, Nat.mod_eq_of_lt hb]
def own_rntF (v : Int32) : Int32 :=
  let v5 := if (65536 : Int32) < v then ((v.toUInt32 >>> ((16 : Int32) &&& 31).toUInt32).toInt32) else v
  let v6 : Int32 := if (65536 : Int32) < v then 17 else 1
  let v10 := if (256 : Int32) < v5 then ((v5.toUInt32 >>> ((8 : Int32) &&& 31).toUInt32).toInt32) else v5
  let v11 := if (256 : Int32) < v5 then v6 + 8 else v6
  let v15 := if (16 : Int32) < v10 then ((v10.toUInt32 >>> ((4 : Int32) &&& 31).toUInt32).toInt32) else v10
  let v16 := if (16 : Int32) < v10 then v11 + 4 else v11
  let v20 := if (4 : Int32) < v15 then ((v15.toUInt32 >>> ((2 : Int32) &&& 31).toUInt32).toInt32) else v15
  let v21 := if (4 : Int32) < v15 then v16 + 2 else v16
  if (0 : Int32) < v then v21 + (((v20).toUInt32 >>> ((1 : Int32) &&& 31).toUInt32).toInt32) else v &&& 32
theorem own_rntF_eq (x : Int32) : own_rnt x = own_rntF (own_rnt_v1 x) := rfl
theorem own_rntF_at : ∀ t : Fin 32, own_rntF (Int32.ofNat (2 ^ t.val - 1)) = Int32.ofNat t.val := by decide +kernel
theorem own_ntz {x : Int32} {t : Nat} (ht : t < 32) (h : x.toBitVec.toNat % 2 ^ (t + 1) = 2 ^ t) : own_rnt x = Int32.ofNat t := by
  rw [own_rntF_eq, own_v1 ht h]; exact own_rntF_at ⟨t, ht⟩
theorem own_ntzL {x : Int64} {t : Nat} (ht : t < 64) (h : x.toBitVec.toNat % 2 ^ (t + 1) = 2 ^ t) : own_rnL x = Int32.ofNat t := by
  have lo : x.toInt32.toBitVec.toNat = x.toBitVec.toNat % 2 ^ 32 := by
    show (x.toBitVec.signExtend 32).toNat = _
    rw [BitVec.signExtend_eq_setWidth_of_le _ (by decide), BitVec.toNat_setWidth]
  have hi : ((x.toUInt64 >>> ((32 : Int32) &&& 0x3f).toInt64.toUInt64).toInt64).toInt32.toBitVec.toNat = x.toBitVec.toNat / 2 ^ 32 := by
    show ((x.toBitVec >>> (32#64 % 64#64).toNat).signExtend 32).toNat = _
    rw [BitVec.signExtend_eq_setWidth_of_le _ (by decide), BitVec.toNat_setWidth, BitVec.toNat_ushiftRight, Nat.shiftRight_eq_div_pow]
    show x.toBitVec.toNat / 2 ^ 32 % 2 ^ 32 = _
    have := x.toBitVec.isLt
    omega
  unfold own_rnL
  by_cases q : t < 32
  · have e : x.toInt32.toBitVec.toNat % 2 ^ (t + 1) = 2 ^ t := by rw [lo, Nat.mod_mod_of_dvd _ (Nat.pow_dvd_pow 2 (by omega))]; exact h
    rw [if_neg, own_ntz q e]
    intro z
    rw [z] at e
    have hp : 0 < 2 ^ t := Nat.pow_pos (by decide)
    rw [show (0 : Int32).toBitVec.toNat = 0 from rfl, Nat.zero_mod] at e
    omega
  · obtain ⟨u, rfl⟩ : ∃ u, t = 32 + u := ⟨t - 32, by omega⟩
    have hm : x.toBitVec.toNat % 2 ^ 32 = 0 := by
      have := congrArg (fun z => z % 2 ^ 32) h
      rw [Nat.mod_mod_of_dvd _ (Nat.pow_dvd_pow 2 (by omega)), Nat.pow_add, Nat.mul_mod_right] at this
      exact this
    have e : ((x.toUInt64 >>> ((32 : Int32) &&& 0x3f).toInt64.toUInt64).toInt64).toInt32.toBitVec.toNat % 2 ^ (u + 1) = 2 ^ u := by
      rw [hi]
      rw [show 32 + u + 1 = 32 + (u + 1) by omega, Nat.pow_add 2 32 (u+1), Nat.mod_mul, hm, Nat.pow_add 2 32 u] at h
      exact Nat.eq_of_mul_eq_mul_left (show 0 < 2 ^ 32 by decide) ((Nat.zero_add _).symm.trans h)
    rw [if_pos, own_ntz (by omega) e]
    · apply Int32.toBitVec_inj.mp
      apply BitVec.eq_of_toNat_eq
      show (32#32 + BitVec.ofNat 32 u).toNat = (BitVec.ofNat 32 (32 + u)).toNat
      rw [BitVec.toNat_add, BitVec.toNat_ofNat, BitVec.toNat_ofNat]
      simp
    · apply Int32.toBitVec_inj.mp
      apply BitVec.eq_of_toNat_eq
      rw [lo, hm]; rfl
theorem own_sh6 {k : Int32} (h0 : 0 ≤ k.toInt) (h1 : k.toInt < 64) : ((k &&& 0x3f).toInt64.toBitVec.smod 64).toNat = k.toInt.toNat ∧ ((k &&& 0x3f).toInt64.toUInt64.toBitVec % 64).toNat = k.toInt.toNat := by
  have a : ∀ n : Fin 64, (((Int32.ofNat n.val) &&& 0x3f).toInt64.toBitVec.smod 64).toNat = n.val ∧ (((Int32.ofNat n.val) &&& 0x3f).toInt64.toUInt64.toBitVec % 64).toNat = n.val := by decide +kernel
  have q := a ⟨k.toInt.toNat, by omega⟩
  have e : Int32.ofNat k.toInt.toNat = k := by
    rw [← Int32.ofInt_eq_ofNat, show ((k.toInt.toNat : Nat) : Int) = k.toInt by omega, Int32.ofInt_toInt]
  simp only [e] at q
  exact q
theorem own_shl64 (x : Int64) {k : Int32} {n : Nat} (h0 : 0 ≤ k.toInt) (h1 : k.toInt < 64) (hn : k.toInt.toNat = n) : (x <<< (k &&& 0x3f).toInt64).toBitVec = x.toBitVec <<< n := by
  rw [Int64.toBitVec_shiftLeft, BitVec.shiftLeft_eq', (own_sh6 h0 h1).1, hn]
theorem own_ushr64 (x : Int64) {k : Int32} {n : Nat} (h0 : 0 ≤ k.toInt) (h1 : k.toInt < 64) (hn : k.toInt.toNat = n) : ((x.toUInt64 >>> (k &&& 0x3f).toInt64.toUInt64).toInt64).toBitVec = x.toBitVec >>> n := by
  rw [UInt64.toBitVec_toInt64, UInt64.toBitVec_shiftRight, BitVec.ushiftRight_eq', (own_sh6 h0 h1).2, hn]; rfl
theorem own_ones {b : Nat} (hb : b ≤ 63) : ∀ i, ((1#64 <<< b) - 1#64).getLsbD i = decide (i < b) := fun i => by
  have e : (1#64 <<< b) - 1#64 = BitVec.ofNat 64 (2 ^ b - 1) := by
    apply BitVec.eq_of_toNat_eq
    have p : 2 ^ b < 2 ^ 64 := Nat.pow_lt_pow_right (by decide) (by omega)
    have p1 : 1 ≤ 2 ^ b := Nat.one_le_two_pow
    rw [BitVec.toNat_sub, BitVec.toNat_shiftLeft, BitVec.toNat_ofNat, BitVec.toNat_ofNat]
    have e1 : (1 % 2 ^ 64) <<< b = 2 ^ b := by rw [show 1 % 2 ^ 64 = 1 from rfl, Nat.one_shiftLeft]
    rw [e1]
    omega
  rw [e, BitVec.getLsbD_ofNat, Nat.testBit_two_pow_sub_one]
  by_cases q : i < b
  · simp [q]; omega
  · simp [q]
theorem own_hi {f : BitVec 64} {b : Nat} (hf : f.toNat < 2 ^ b) {i : Nat} (hi : b ≤ i) : f.getLsbD i = false := by
  rw [BitVec.getLsbD]
  exact Nat.testBit_lt_two_pow (Nat.lt_of_lt_of_le hf (Nat.pow_le_pow_right (by decide) hi))
theorem own_put {n f m : BitVec 64} {s b : Nat} (hm : ∀ i, m.getLsbD i = decide (i < b)) (hf : f.toNat < 2 ^ b) (hs : s + b ≤ 64) : (((n &&& ~~~ (m <<< s)) ||| (f <<< s)) >>> s) &&& m = f := by
  apply BitVec.eq_of_getLsbD_eq
  intro i hi
  have a1 : ¬ (s + i < s) := by omega
  by_cases q : i < b
  · have a2 : s + i < 64 := by omega
    simp only [BitVec.getLsbD_and, BitVec.getLsbD_ushiftRight, BitVec.getLsbD_or, BitVec.getLsbD_not, BitVec.getLsbD_shiftLeft, a1, a2, hm, q, Nat.add_sub_cancel_left, decide_true, decide_false, Bool.not_false, Bool.not_true, Bool.and_true, Bool.true_and, Bool.and_false, Bool.false_or]
  · rw [BitVec.getLsbD_and, hm, decide_eq_false q, Bool.and_false, own_hi hf (by omega)]
theorem own_turn {b v : Int64} {n : Int32} {A N : Nat} (hn : n.toInt = N) (hN : N < 56) (hb : b.toBitVec.toNat = A % 2 ^ N) (hv : v.toBitVec.toNat = A / 2 ^ N % 256) : (b ||| (v <<< (n &&& 0x3f).toInt64)).toBitVec.toNat = A % 2 ^ (N + 8) := by
  have hs : (v <<< (n &&& 0x3f).toInt64).toBitVec = v.toBitVec <<< N := own_shl64 v (by omega) (by omega) (by omega)
  have hp : 0 < 2 ^ N := Nat.pow_pos (by decide)
  have hlt : A / 2 ^ N % 256 < 256 := Nat.mod_lt _ (by decide)
  have hle : 2 ^ N * (A / 2 ^ N % 256) < 2 ^ 64 := by
    have h1 : 2 ^ N * (A / 2 ^ N % 256) < 2 ^ N * 256 := Nat.mul_lt_mul_of_pos_left hlt hp
    have h2 : 2 ^ N * 256 ≤ 2 ^ 64 := by
      rw [show 256 = 2 ^ 8 from rfl, ← Nat.pow_add]; exact Nat.pow_le_pow_right (by decide) (by omega)
    omega
  show (b.toBitVec ||| (v <<< (n &&& 0x3f).toInt64).toBitVec).toNat = _
  rw [hs, BitVec.toNat_or, BitVec.toNat_shiftLeft, hb, hv, Nat.shiftLeft_eq, Nat.mul_comm _ (2 ^ N), Nat.mod_eq_of_lt hle, Nat.or_comm, ← Nat.two_pow_add_eq_or_of_lt (Nat.mod_lt _ hp), Nat.pow_add, Nat.mod_mul, Nat.add_comm]
theorem own_drop {b : Int64} {n : Int32} {A N c : Nat} (hn : n.toInt = c) (hc : c ≤ N) (hN : c < 64) (hb : b.toBitVec.toNat = A % 2 ^ N) : ((b.toUInt64 >>> (n &&& 0x3f).toInt64.toUInt64).toInt64).toBitVec.toNat = A / 2 ^ c % 2 ^ (N - c) := by
  rw [own_ushr64 b (n := c) (by omega) (by omega) (by omega), BitVec.toNat_ushiftRight, hb, Nat.shiftRight_eq_div_pow]
  rw [show N = c + (N - c) by omega, Nat.pow_add, Nat.mod_mul_right_div_self]
  congr 2; omega
theorem own_take {b : Int64} {n : Int32} {A N c : Nat} (hn : n.toInt = c) (hc : c ≤ N) (hc2 : c ≤ 28) (hb : b.toBitVec.toNat = A % 2 ^ N) : ((b &&& (((1 : Int64) <<< (n &&& 0x3f).toInt64) - (1 : Int64))).toInt32).toInt = ((A % 2 ^ c : Nat) : Int) := by
  have hs : ((1 : Int64) <<< (n &&& 0x3f).toInt64).toBitVec = 1#64 <<< c := own_shl64 1 (by omega) (by omega) (by omega)
  have p1 : 1 ≤ 2 ^ c := Nat.one_le_two_pow
  have p2 : 2 ^ c ≤ 2 ^ 28 := Nat.pow_le_pow_right (by decide) hc2
  have hm : (((1 : Int64) <<< (n &&& 0x3f).toInt64) - (1 : Int64)).toBitVec.toNat = 2 ^ c - 1 := by
    rw [Int64.toBitVec_sub, hs, BitVec.toNat_sub, BitVec.toNat_shiftLeft]
    show (2 ^ 64 - 1 + ((1 % 2 ^ 64) <<< c) % 2 ^ 64) % 2 ^ 64 = _
    rw [show (1 % 2 ^ 64) <<< c = 2 ^ c by rw [show 1 % 2 ^ 64 = 1 from rfl, Nat.one_shiftLeft]]
    omega
  have hv : (b &&& (((1 : Int64) <<< (n &&& 0x3f).toInt64) - (1 : Int64))).toBitVec.toNat = A % 2 ^ c := by
    rw [Int64.toBitVec_and, BitVec.toNat_and, hm, hb, Nat.and_two_pow_sub_one_eq_mod, Nat.mod_mod_of_dvd _ (Nat.pow_dvd_pow 2 hc)]
  have hlt : A % 2 ^ c < 2 ^ c := Nat.mod_lt _ (by omega)
  have hw : ((b &&& (((1 : Int64) <<< (n &&& 0x3f).toInt64) - (1 : Int64))).toInt32).toBitVec.toNat = A % 2 ^ c := by
    show ((b &&& (((1 : Int64) <<< (n &&& 0x3f).toInt64) - (1 : Int64))).toBitVec.signExtend 32).toNat = _
    rw [BitVec.signExtend_eq_setWidth_of_le _ (by decide), BitVec.toNat_setWidth, hv]
    omega
  show BitVec.toInt _ = _
  rw [BitVec.toInt_eq_toNat_cond, hw, if_pos (by omega)]
theorem own_not {b : Int64} : (b ^^^ (-1 : Int64)).toBitVec.toNat = 2 ^ 64 - 1 - b.toBitVec.toNat := by
  show (b.toBitVec ^^^ (-1 : Int64).toBitVec).toNat = _
  rw [show (-1 : Int64).toBitVec = BitVec.allOnes 64 from rfl, BitVec.xor_allOnes, BitVec.toNat_not]
theorem own_cmod {x t : Nat} (ht : t < 64) (hx : x < 2 ^ 64) : (2 ^ 64 - 1 - x) % 2 ^ (t + 1) = 2 ^ (t + 1) - 1 - x % 2 ^ (t + 1) := by
  have e : 2 ^ 64 = 2 ^ (t + 1) * 2 ^ (63 - t) := by rw [← Nat.pow_add]; congr 1; omega
  have hp : 0 < 2 ^ (t + 1) := Nat.pow_pos (by decide)
  have hm : x % 2 ^ (t + 1) < 2 ^ (t + 1) := Nat.mod_lt _ hp
  have hd := Nat.div_add_mod x (2 ^ (t + 1))
  have hq : x / 2 ^ (t + 1) < 2 ^ (63 - t) := Nat.div_lt_of_lt_mul (by rw [← e]; exact hx)
  obtain ⟨r, hr⟩ : ∃ r, 2 ^ (63 - t) = x / 2 ^ (t + 1) + 1 + r := ⟨2 ^ (63 - t) - (x / 2 ^ (t + 1) + 1), by omega⟩
  have e2 : 2 ^ 64 - 1 - x = (2 ^ (t + 1) - 1 - x % 2 ^ (t + 1)) + 2 ^ (t + 1) * r := by
    rw [hr, Nat.mul_add, Nat.mul_add, Nat.mul_one] at e
    omega
  rw [e2, Nat.add_mul_mod_self_left, Nat.mod_eq_of_lt (by omega)]
theorem own_run1 {b : Int64} {A N q : Nat} (hb : b.toBitVec.toNat = A % 2 ^ N) (hq : A % 2 ^ (q + 1) = 2 ^ q - 1) (h : q < N) (hN : N ≤ 63) : own_rnL (b ^^^ (-1 : Int64)) = Int32.ofNat q := by
  apply own_ntzL (by omega)
  have hp : 0 < 2 ^ q := Nat.pow_pos (by decide)
  rw [own_not, own_cmod (by omega) b.toBitVec.isLt, hb, Nat.mod_mod_of_dvd _ (Nat.pow_dvd_pow 2 (by omega)), hq, Nat.pow_succ]
  omega
theorem own_run2 {b : Int64} {A N q : Nat} (hb : b.toBitVec.toNat = A % 2 ^ N) (hq : A % 2 ^ (q + 1) = 2 ^ q - 1) (h : N ≤ q) (hN : N ≤ 63) : own_rnL (b ^^^ (-1 : Int64)) = Int32.ofNat N ∧ A / 2 ^ N % 2 ^ (q - N + 1) = 2 ^ (q - N) - 1 := by
  have hp : 0 < 2 ^ N := Nat.pow_pos (by decide)
  have hp2 : 0 < 2 ^ (q - N) := Nat.pow_pos (by decide)
  have e1 : 2 ^ q = 2 ^ N * 2 ^ (q - N) := by rw [← Nat.pow_add]; congr 1; omega
  have e2 : 2 ^ (q + 1) = 2 ^ N * 2 ^ (q - N + 1) := by rw [← Nat.pow_add]; congr 1; omega
  have hN1 : A % 2 ^ N = 2 ^ N - 1 ∧ A / 2 ^ N % 2 ^ (q - N + 1) = 2 ^ (q - N) - 1 := by
    have f := Nat.mod_mul (x := A) (a := 2 ^ N) (b := 2 ^ (q - N + 1))
    rw [← e2, hq, e1] at f
    have hlt : A % 2 ^ N < 2 ^ N := Nat.mod_lt _ hp
    obtain ⟨r, hr⟩ : ∃ r, 2 ^ (q - N) = r + 1 := ⟨2 ^ (q - N) - 1, by omega⟩
    rw [hr, Nat.mul_add, Nat.mul_one] at f
    have g : 2 ^ N * r + (2 ^ N - 1) = 2 ^ N * (A / 2 ^ N % 2 ^ (q - N + 1)) + A % 2 ^ N := by omega
    have g1 := congrArg (fun z => z / 2 ^ N) g
    have g2 := congrArg (fun z => z % 2 ^ N) g
    simp only [Nat.mul_add_div hp, Nat.mul_add_mod, Nat.div_eq_of_lt hlt, Nat.mod_eq_of_lt hlt, Nat.div_eq_of_lt (show 2 ^ N - 1 < 2 ^ N by omega), Nat.mod_eq_of_lt (show 2 ^ N - 1 < 2 ^ N by omega), Nat.add_zero] at g1 g2
    omega
  refine ⟨?_, hN1.2⟩
  apply own_ntzL (by omega)
  have hb2 : b.toBitVec.toNat = 2 ^ N - 1 := by rw [hb, hN1.1]
  rw [own_not, own_cmod (by omega) b.toBitVec.isLt, hb2, Nat.mod_eq_of_lt (by rw [Nat.pow_succ]; omega), Nat.pow_succ]
  omega
def own_rput (f : Nat → Int64) (v : Int64) (p : Int32) : Nat → Int64 :=
  if (p &&& (63 : Int32)) = (0 : Int32) then own_up f ((p.toUInt32 >>> ((6 : Int32) &&& 31).toUInt32).toInt32).toNatClampNeg ((f ((p.toUInt32 >>> ((6 : Int32) &&& 31).toUInt32).toInt32).toNatClampNeg) ||| (v <<< ((p &&& (63 : Int32)) &&& 0x3f).toInt64))
  else if (((p.toUInt32 >>> ((6 : Int32) &&& 31).toUInt32).toInt32) + (1 : Int32)) < (3 : Int32) then own_up (own_up f ((p.toUInt32 >>> ((6 : Int32) &&& 31).toUInt32).toInt32).toNatClampNeg ((f ((p.toUInt32 >>> ((6 : Int32) &&& 31).toUInt32).toInt32).toNatClampNeg) ||| (v <<< ((p &&& (63 : Int32)) &&& 0x3f).toInt64))) (((p.toUInt32 >>> ((6 : Int32) &&& 31).toUInt32).toInt32) + (1 : Int32)).toNatClampNeg (((own_up f ((p.toUInt32 >>> ((6 : Int32) &&& 31).toUInt32).toInt32).toNatClampNeg ((f ((p.toUInt32 >>> ((6 : Int32) &&& 31).toUInt32).toInt32).toNatClampNeg) ||| (v <<< ((p &&& (63 : Int32)) &&& 0x3f).toInt64))) (((p.toUInt32 >>> ((6 : Int32) &&& 31).toUInt32).toInt32) + (1 : Int32)).toNatClampNeg) ||| ((v.toUInt64 >>> (((64 : Int32) - (p &&& (63 : Int32))) &&& 0x3f).toInt64.toUInt64).toInt64))
  else own_up f ((p.toUInt32 >>> ((6 : Int32) &&& 31).toUInt32).toInt32).toNatClampNeg ((f ((p.toUInt32 >>> ((6 : Int32) &&& 31).toUInt32).toInt32).toNatClampNeg) ||| (v <<< ((p &&& (63 : Int32)) &&& 0x3f).toInt64))
def own_W (f : Nat → Int64) : Nat := (f 0).toBitVec.toNat + 2 ^ 64 * ((f 1).toBitVec.toNat + 2 ^ 64 * (f 2).toBitVec.toNat)
theorem own_Wbit {f : Nat → Int64} {t b : Nat} (ht : t < 3) (hb : b < 64) : (own_W f).testBit (64 * t + b) = (f t).toBitVec.getLsbD b := by
  have h0 := (f 0).toBitVec.isLt
  have h1 := (f 1).toBitVec.isLt
  rw [own_W, Nat.add_comm, Nat.testBit_two_pow_mul_add _ h0]
  rcases t with _ | _ | _ | t
  · rw [if_pos (by omega)]; simp [BitVec.getLsbD]
  · rw [if_neg (by omega), Nat.add_comm, Nat.testBit_two_pow_mul_add _ h1, if_pos (by omega), show 64 * (0 + 1) + b - 64 = b by omega]; rfl
  · rw [if_neg (by omega), Nat.add_comm, Nat.testBit_two_pow_mul_add _ h1, if_neg (by omega), show 64 * (0 + 1 + 1) + b - 64 - 64 = b by omega]; rfl
  · omega
theorem own_Wlt {f : Nat → Int64} : own_W f < 2 ^ 192 := by
  have h0 := (f 0).toBitVec.isLt
  have h1 := (f 1).toBitVec.isLt
  have h2 := (f 2).toBitVec.isLt
  unfold own_W
  omega
theorem own_idx {p : Int32} (h0 : 0 ≤ p.toInt) (h1 : p.toInt < 192) : ((p.toUInt32 >>> ((6 : Int32) &&& 31).toUInt32).toInt32).toInt = p.toInt / 64 ∧ (p &&& (63 : Int32)).toInt = p.toInt % 64 := by
  have a : ∀ n : Fin 192, (((Int32.ofNat n.val).toUInt32 >>> ((6 : Int32) &&& 31).toUInt32).toInt32).toInt = ((n.val / 64 : Nat) : Int) ∧ ((Int32.ofNat n.val) &&& (63 : Int32)).toInt = ((n.val % 64 : Nat) : Int) := by decide +kernel
  have q := a ⟨p.toInt.toNat, by omega⟩
  have e : Int32.ofNat p.toInt.toNat = p := by
    rw [← Int32.ofInt_eq_ofNat, show ((p.toInt.toNat : Nat) : Int) = p.toInt by omega, Int32.ofInt_toInt]
  simp only [e] at q
  omega
theorem own_putbit {f : Nat → Int64} {v : Int64} {p : Int32} {P t b : Nat} (hp : p.toInt = P) (h1 : P < 192) (ht : t < 3) (hb : b < 64) : (own_rput f v p t).toBitVec.getLsbD b = ((f t).toBitVec.getLsbD b || (decide (P ≤ 64 * t + b) && v.toBitVec.getLsbD (64 * t + b - P))) := by
  obtain ⟨ei, es⟩ := own_idx (p := p) (by omega) (by omega)
  generalize hi : ((p.toUInt32 >>> ((6 : Int32) &&& 31).toUInt32).toInt32) = i at ei
  generalize hs : (p &&& (63 : Int32)) = s at es
  have i0 : i.toNatClampNeg = P / 64 := by unfold Int32.toNatClampNeg; omega
  have i1 : (i + 1).toInt = i.toInt + 1 := by
    rw [Int32.toInt_add, show (1 : Int32).toInt = 1 from rfl]; exact Int.bmod_eq_of_le (by omega) (by omega)
  have i2 : (i + 1).toNatClampNeg = P / 64 + 1 := by unfold Int32.toNatClampNeg; omega
  have sl : ((v <<< (s &&& 0x3f).toInt64).toBitVec) = v.toBitVec <<< (P % 64) := own_shl64 v (by omega) (by omega) (by omega)
  have f1 : ∀ t b, b < 64 → (own_up f i.toNatClampNeg ((f i.toNatClampNeg) ||| (v <<< (s &&& 0x3f).toInt64)) t).toBitVec.getLsbD b = ((f t).toBitVec.getLsbD b || (decide (t = P / 64) && (decide (P % 64 ≤ b) && v.toBitVec.getLsbD (b - P % 64)))) := fun t b hb => by
    unfold own_up
    rw [i0]
    by_cases q : t = P / 64
    · subst q
      rw [if_pos rfl, Int64.toBitVec_or, sl, BitVec.getLsbD_or, BitVec.getLsbD_shiftLeft]
      by_cases q2 : b < P % 64
      · have : ¬ P % 64 ≤ b := by omega
        simp [*]
      · have : P % 64 ≤ b := by omega
        simp [*]
    · rw [if_neg q]; simp [q]
  unfold own_rput
  rw [hi, hs]
  have hz : s = 0 ↔ P % 64 = 0 := by rw [← Int32.toInt_inj, es, show (0 : Int32).toInt = 0 from rfl]; omega
  have hge : 64 ≤ 64 * t + b - P → v.toBitVec.getLsbD (64 * t + b - P) = false := fun h => BitVec.getLsbD_of_ge _ _ h
  by_cases q : s = 0
  · rw [if_pos q, f1 t b hb]
    have z := hz.mp q
    congr 1
    by_cases q1 : t = P / 64
    · rw [show 64 * t + b - P = b - P % 64 by omega, decide_eq_true q1, decide_eq_true (show P % 64 ≤ b by omega), decide_eq_true (show P ≤ 64 * t + b by omega)]; rfl
    · by_cases q2 : P ≤ 64 * t + b
      · rw [hge (by omega)]; simp [q1]
      · simp [q1, q2]
  · rw [if_neg q]
    have z : ¬ P % 64 = 0 := fun h => q (hz.mpr h)
    by_cases q1 : i + 1 < 3
    · rw [if_pos q1]
      have q1' : P / 64 + 1 < 3 := by rw [Int32.lt_iff_toInt_lt, i1, show (3 : Int32).toInt = 3 from rfl] at q1; omega
      have e64 : ((64 : Int32) - s).toInt = 64 - s.toInt := by
        rw [Int32.toInt_sub, show (64 : Int32).toInt = 64 from rfl]; exact Int.bmod_eq_of_le (by omega) (by omega)
      have sr := own_ushr64 v (k := (64 : Int32) - s) (n := 64 - P % 64) (by omega) (by omega) (by omega)
      by_cases q2 : t = P / 64 + 1
      · show (own_up (own_up f i.toNatClampNeg _) (i + 1).toNatClampNeg _ t).toBitVec.getLsbD b = _
        rw [i2, own_up, if_pos q2, Int64.toBitVec_or, BitVec.getLsbD_or, sr, BitVec.getLsbD_ushiftRight, f1 _ b hb]
        have n1 : ¬ (P / 64 + 1 = P / 64) := by omega
        have n2 : P ≤ 64 * t + b := by omega
        have n3 : 64 * t + b - P = 64 - P % 64 + b := by omega
        rw [n3, q2]
        simp [n1, show P ≤ 64 * (P / 64 + 1) + b by omega]
      · show (own_up (own_up f i.toNatClampNeg _) (i + 1).toNatClampNeg _ t).toBitVec.getLsbD b = _
        rw [i2, own_up, if_neg q2, f1 t b hb]
        congr 1
        by_cases q3 : t = P / 64
        · by_cases q4 : P % 64 ≤ b
          · rw [show 64 * t + b - P = b - P % 64 by omega, decide_eq_true q3, decide_eq_true q4, decide_eq_true (show P ≤ 64 * t + b by omega)]; rfl
          · rw [decide_eq_false q4, decide_eq_false (show ¬ P ≤ 64 * t + b by omega)]; simp
        · by_cases q4 : P ≤ 64 * t + b
          · rw [hge (by omega)]; simp [q3]
          · simp [q3, q4]
    · rw [if_neg q1, f1 t b hb]
      have q1' : ¬ P / 64 + 1 < 3 := by rw [Int32.lt_iff_toInt_lt, i1, show (3 : Int32).toInt = 3 from rfl] at q1; omega
      congr 1
      by_cases q3 : t = P / 64
      · by_cases q4 : P % 64 ≤ b
        · rw [show 64 * t + b - P = b - P % 64 by omega, decide_eq_true q3, decide_eq_true q4, decide_eq_true (show P ≤ 64 * t + b by omega)]; rfl
        · rw [decide_eq_false q4, decide_eq_false (show ¬ P ≤ 64 * t + b by omega)]; simp
      · rw [decide_eq_false q3, decide_eq_false (show ¬ P ≤ 64 * t + b by omega)]; rfl
theorem own_putW {f : Nat → Int64} {v : Int64} {p : Int32} {P X : Nat} (hp : p.toInt = P) (h1 : P < 192) (hX : own_W f = X) (hlt : X < 2 ^ P) : own_W (own_rput f v p) = X + 2 ^ P * (v.toBitVec.toNat % 2 ^ (192 - P)) := by
  have hle : 2 ^ P * (v.toBitVec.toNat % 2 ^ (192 - P)) + X < 2 ^ 192 := by
    have h2 : v.toBitVec.toNat % 2 ^ (192 - P) < 2 ^ (192 - P) := Nat.mod_lt _ (Nat.pow_pos (by decide))
    have h3 : 2 ^ 192 = 2 ^ P * 2 ^ (192 - P) := by rw [← Nat.pow_add]; congr 1; omega
    have h4 : 2 ^ P * (v.toBitVec.toNat % 2 ^ (192 - P) + 1) ≤ 2 ^ P * 2 ^ (192 - P) := Nat.mul_le_mul_left _ h2
    rw [Nat.mul_add, Nat.mul_one] at h4
    omega
  apply Nat.eq_of_testBit_eq
  intro j
  rw [Nat.add_comm X, Nat.testBit_two_pow_mul_add _ hlt]
  by_cases q : j < 192
  · obtain ⟨t, b, ht, hb, rfl⟩ : ∃ t b, t < 3 ∧ b < 64 ∧ j = 64 * t + b := ⟨j / 64, j % 64, by omega, by omega, by omega⟩
    rw [own_Wbit ht hb, own_putbit hp h1 ht hb, ← own_Wbit ht hb, hX]
    by_cases q2 : 64 * t + b < P
    · rw [if_pos q2, decide_eq_false (by omega)]; simp
    · rw [if_neg q2, decide_eq_true (by omega), Nat.testBit_lt_two_pow (Nat.lt_of_lt_of_le hlt (Nat.pow_le_pow_right (by decide) (by omega))), Nat.testBit_mod_two_pow, decide_eq_true (show 64 * t + b - P < 192 - P by omega)]
      rfl
  · rw [Nat.testBit_lt_two_pow (Nat.lt_of_lt_of_le own_Wlt (Nat.pow_le_pow_right (by decide) (by omega))), if_neg (by omega), Nat.testBit_mod_two_pow, decide_eq_false (by omega)]
    rfl
theorem own_b255 (y : Int64) : ((((y.toInt32.toInt8.toInt32).toInt8.toInt32).toInt64) &&& (255 : Int64)).toBitVec.toNat = y.toBitVec.toNat % 256 := by
  have e : ((((y.toInt32.toInt8.toInt32).toInt8.toInt32).toInt64) &&& (255 : Int64)).toBitVec = (y.toBitVec.setWidth 8).setWidth 64 := by
    apply BitVec.eq_of_getLsbD_eq
    intro i hi
    show ((((((y.toBitVec.signExtend 32).signExtend 8).signExtend 32).signExtend 8).signExtend 32).signExtend 64 &&& 255#64).getLsbD i = _
    rw [BitVec.getLsbD_and, BitVec.getLsbD_setWidth, BitVec.getLsbD_setWidth]
    have h255 : (255#64).getLsbD i = decide (i < 8) := by
      rw [show (255#64) = BitVec.ofNat 64 (2 ^ 8 - 1) from rfl, BitVec.getLsbD_ofNat, Nat.testBit_two_pow_sub_one]
      simp [hi]
    rw [h255]
    by_cases q : i < 8
    · have a1 : i < 32 := by omega
      rw [BitVec.getLsbD_signExtend, BitVec.getLsbD_signExtend, BitVec.getLsbD_signExtend, BitVec.getLsbD_signExtend, BitVec.getLsbD_signExtend, BitVec.getLsbD_signExtend]
      simp only [q, a1, hi, show i < 64 from hi, decide_true, Bool.true_and, Bool.and_true, if_true]
    · simp [q]
  rw [e, BitVec.toNat_setWidth, BitVec.toNat_setWidth]
  omega
theorem own_byteU (x : Int64) {k : Int32} {u : Nat} (h0 : 0 ≤ k.toInt) (h1 : k.toInt < 64) (hu : k.toInt.toNat = u) : ((((((x.toUInt64 >>> (k &&& 0x3f).toInt64.toUInt64).toInt64).toInt32.toInt8.toInt32).toInt8.toInt32).toInt64) &&& (255 : Int64)).toBitVec.toNat = x.toBitVec.toNat / 2 ^ u % 256 := by
  rw [own_b255, own_ushr64 x h0 h1 hu, BitVec.toNat_ushiftRight, Nat.shiftRight_eq_div_pow]
theorem own_Wbyte {f : Nat → Int64} {t u : Nat} (ht : t < 3) (hu : u < 8) : own_W f / 2 ^ (8 * (8 * t + u)) % 256 = (f t).toBitVec.toNat / 2 ^ (8 * u) % 256 := by
  have h0 := (f 0).toBitVec.isLt
  have h1 := (f 1).toBitVec.isLt
  have h2 := (f 2).toBitVec.isLt
  apply Nat.eq_of_testBit_eq
  intro j
  rw [show 256 = 2 ^ 8 from rfl, Nat.testBit_mod_two_pow, Nat.testBit_mod_two_pow, Nat.testBit_div_two_pow, Nat.testBit_div_two_pow]
  by_cases q : j < 8
  · rw [show j + 8 * (8 * t + u) = 64 * t + (j + 8 * u) by omega, own_Wbit ht (by omega)]; rfl
  · simp [q]
/-- what the two numbers of an entry say of the data: q ones and a zero, then k bits that make r -/
def own_ent (D P q k r : Nat) : Prop := D / 2 ^ P % 2 ^ (q + 1) = 2 ^ q - 1 ∧ D / 2 ^ (P + q + 1) % 2 ^ k = r
theorem own_ent1 {X P q k r G : Nat} (hX : X < 2 ^ P) (hr : r < 2 ^ k) : own_ent (X + 2 ^ P * ((2 ^ q - 1) + 2 ^ (q + 1) * (r + 2 ^ k * G))) P q k r := by
  have hp : 0 < 2 ^ P := Nat.pow_pos (by decide)
  have hq : 0 < 2 ^ q := Nat.pow_pos (by decide)
  have hq1 : 2 ^ q - 1 < 2 ^ (q + 1) := by rw [Nat.pow_succ]; omega
  have e : (X + 2 ^ P * ((2 ^ q - 1) + 2 ^ (q + 1) * (r + 2 ^ k * G))) / 2 ^ P = (2 ^ q - 1) + 2 ^ (q + 1) * (r + 2 ^ k * G) := by
    rw [Nat.add_mul_div_left _ _ hp, Nat.div_eq_of_lt hX, Nat.zero_add]
  refine ⟨by rw [e, Nat.add_mul_mod_self_left, Nat.mod_eq_of_lt hq1], ?_⟩
  rw [show P + q + 1 = P + (q + 1) by omega, Nat.pow_add 2 P (q + 1), ← Nat.div_div_eq_div_mul, e, Nat.add_mul_div_left _ _ (Nat.pow_pos (by decide)), Nat.div_eq_of_lt hq1, Nat.zero_add, Nat.add_mul_mod_self_left, Nat.mod_eq_of_lt hr]
theorem own_entLow {D E P q k r Q : Nat} (h : own_ent D P q k r) (hQ : P + q + 1 + k ≤ Q) : own_ent (D % 2 ^ Q + 2 ^ Q * E) P q k r := by
  have key : ∀ a b, a + b ≤ Q → (D % 2 ^ Q + 2 ^ Q * E) / 2 ^ a % 2 ^ b = D / 2 ^ a % 2 ^ b := fun a b hab => by
    apply Nat.eq_of_testBit_eq
    intro j
    rw [Nat.testBit_mod_two_pow, Nat.testBit_mod_two_pow, Nat.testBit_div_two_pow, Nat.testBit_div_two_pow, Nat.add_comm (D % 2 ^ Q), Nat.testBit_two_pow_mul_add _ (Nat.mod_lt _ (Nat.pow_pos (by decide)))]
    by_cases q : j < b
    · rw [if_pos (by omega), Nat.testBit_mod_two_pow, decide_eq_true (show j + a < Q by omega)]; simp
    · simp [q]
  exact ⟨by rw [key _ _ (by omega)]; exact h.1, by rw [key _ _ (by omega)]; exact h.2⟩
theorem own_i3 {p i : Int32} (h : i = ((p.toUInt32 >>> ((6 : Int32) &&& 31).toUInt32).toInt32)) (h0 : ¬ (p < (0 : Int32))) (h1 : p < (192 : Int32)) : i < (3 : Int32) ∧ ¬ i < 0 ∧ i.toNatClampNeg < 3 := by
  rw [Int32.lt_iff_toInt_lt, show (0 : Int32).toInt = 0 from rfl] at h0
  rw [Int32.lt_iff_toInt_lt, show (192 : Int32).toInt = 192 from rfl] at h1
  obtain ⟨e, -⟩ := own_idx (p := p) (by omega) (by omega)
  rw [← h] at e
  refine ⟨?_, ?_, ?_⟩
  · rw [Int32.lt_iff_toInt_lt, show (3 : Int32).toInt = 3 from rfl]; omega
  · rw [Int32.lt_iff_toInt_lt, show (0 : Int32).toInt = 0 from rfl]; omega
  · unfold Int32.toNatClampNeg; omega
theorem own_i4 {i j : Int32} (h : j = (i + (1 : Int32))) (hi : i < (3 : Int32) ∧ ¬ i < 0 ∧ i.toNatClampNeg < 3) (hj : j < (3 : Int32)) : ¬ j < 0 ∧ j.toNatClampNeg < 3 := by
  obtain ⟨h1, h2, -⟩ := hi
  rw [Int32.lt_iff_toInt_lt, show (3 : Int32).toInt = 3 from rfl] at h1 hj
  rw [Int32.lt_iff_toInt_lt, show (0 : Int32).toInt = 0 from rfl] at h2
  have e : j.toInt = i.toInt + 1 := by
    rw [h, Int32.toInt_add, show (1 : Int32).toInt = 1 from rfl]; exact Int.bmod_eq_of_le (by omega) (by omega)
  refine ⟨?_, ?_⟩
  · rw [Int32.lt_iff_toInt_lt, show (0 : Int32).toInt = 0 from rfl]; omega
  · unfold Int32.toNatClampNeg; omega
theorem d2_0 : decode method_3_code 0 = .ok (.iload_n 3, 1) := by decide +kernel
theorem d2_1 : decode method_3_code 1 = .ok (.bipush 6, 2) := by decide +kernel
theorem d2_3 : decode method_3_code 3 = .ok (.iushr, 1) := by decide +kernel
theorem d2_4 : decode method_3_code 4 = .ok (.istore 4, 2) := by decide +kernel
theorem d2_6 : decode method_3_code 6 = .ok (.iload_n 3, 1) := by decide +kernel
theorem d2_7 : decode method_3_code 7 = .ok (.bipush 63, 2) := by decide +kernel
theorem d2_9 : decode method_3_code 9 = .ok (.iand, 1) := by decide +kernel
theorem d2_10 : decode method_3_code 10 = .ok (.istore 5, 2) := by decide +kernel
theorem d2_12 : decode method_3_code 12 = .ok (.iload 4, 2) := by decide +kernel
theorem d2_14 : decode method_3_code 14 = .ok (.iconst 3, 1) := by decide +kernel
theorem d2_15 : decode method_3_code 15 = .ok (.if_icmp .ge 14, 3) := by decide +kernel
theorem d2_18 : decode method_3_code 18 = .ok (.aload_n 0, 1) := by decide +kernel
theorem d2_19 : decode method_3_code 19 = .ok (.iload 4, 2) := by decide +kernel
theorem d2_21 : decode method_3_code 21 = .ok (.dup2, 1) := by decide +kernel
theorem d2_22 : decode method_3_code 22 = .ok (.laload, 1) := by decide +kernel
theorem d2_23 : decode method_3_code 23 = .ok (.lload_n 1, 1) := by decide +kernel
theorem d2_24 : decode method_3_code 24 = .ok (.iload 5, 2) := by decide +kernel
theorem d2_26 : decode method_3_code 26 = .ok (.lshl, 1) := by decide +kernel
theorem d2_27 : decode method_3_code 27 = .ok (.lor, 1) := by decide +kernel
theorem d2_28 : decode method_3_code 28 = .ok (.lastore, 1) := by decide +kernel
theorem d2_29 : decode method_3_code 29 = .ok (.iload 5, 2) := by decide +kernel
theorem d2_31 : decode method_3_code 31 = .ok (.ifCond .eq 27, 3) := by decide +kernel
theorem d2_34 : decode method_3_code 34 = .ok (.iload 4, 2) := by decide +kernel
theorem d2_36 : decode method_3_code 36 = .ok (.iconst 1, 1) := by decide +kernel
theorem d2_37 : decode method_3_code 37 = .ok (.iadd, 1) := by decide +kernel
theorem d2_38 : decode method_3_code 38 = .ok (.iconst 3, 1) := by decide +kernel
theorem d2_39 : decode method_3_code 39 = .ok (.if_icmp .ge 19, 3) := by decide +kernel
theorem d2_42 : decode method_3_code 42 = .ok (.aload_n 0, 1) := by decide +kernel
theorem d2_43 : decode method_3_code 43 = .ok (.iload 4, 2) := by decide +kernel
theorem d2_45 : decode method_3_code 45 = .ok (.iconst 1, 1) := by decide +kernel
theorem d2_46 : decode method_3_code 46 = .ok (.iadd, 1) := by decide +kernel
theorem d2_47 : decode method_3_code 47 = .ok (.dup2, 1) := by decide +kernel
theorem d2_48 : decode method_3_code 48 = .ok (.laload, 1) := by decide +kernel
theorem d2_49 : decode method_3_code 49 = .ok (.lload_n 1, 1) := by decide +kernel
theorem d2_50 : decode method_3_code 50 = .ok (.bipush 64, 2) := by decide +kernel
theorem d2_52 : decode method_3_code 52 = .ok (.iload 5, 2) := by decide +kernel
theorem d2_54 : decode method_3_code 54 = .ok (.isub, 1) := by decide +kernel
theorem d2_55 : decode method_3_code 55 = .ok (.lushr, 1) := by decide +kernel
theorem d2_56 : decode method_3_code 56 = .ok (.lor, 1) := by decide +kernel
theorem d2_57 : decode method_3_code 57 = .ok (.lastore, 1) := by decide +kernel
theorem d2_58 : decode method_3_code 58 = .ok (.return_, 1) := by decide +kernel
theorem ef_pt (m : MethodId) (r0 : Addr) (q1 : Int64) (p2 : Int32) : entryFrame m #[(.ref r0), (.long q1), (.int p2)] 6 = mkF m 0 #[.val (.ref r0), .val (.long q1), .second, .val (.int p2), .unset, .unset] [] := by (first | (simp [entryFrame, mkF, argsToLocals, Value.category]; done) | rfl)
theorem pn3 : plainName "com/example/canonic/canonic/RiceCodeDecodePinLaw" = true := by first | (simp [plainName, overriddenIn]; done) | decide +kernel
def Qpt (Z : State) (r0 : Addr) (q1 : Int64) (p2 : Int32) (f : Nat → Int64) (h0 : Heap) (n0 : Nat) (v : Option Value) (h : Heap) (L : List Loc) : Prop := v = none ∧ Fr n0 L ∧ Keep h0 h [r0] ∧ own_AJ Z h r0 .long 3 (own_rput f q1 p2)
set_option maxRecDepth 65536 in
set_option maxHeartbeats 40000000 in
theorem rmpt (l : Launch) (Z : State) (a0 : Array Value) (hw : ∀ d ∈ tables_1, d.before a0 Z = true) (ws : List Jvm.Cond) (r0 : Addr) (q1 : Int64) (p2 : Int32) (f : Nat → Int64) (h0 : Heap) (n0 : Nat) (Z0 : n0 ≤ h0.size) (A_r0 : own_AJ Z h0 r0 .long 3 f) (hp0 : ¬ (p2 < (0 : Int32))) (hp1 : p2 < (192 : Int32)) (g_r0 : n0 ≤ r0) :
    MetFree l (⟨"com/example/canonic/canonic/RiceCodeDecodePinLaw", "put", "([JJI)V"⟩ : MethodName) (head1 (Jvm.Cond.code (⟨"com/example/canonic/canonic/RiceCodeDecodePinLaw", "put", "([JJI)V"⟩ : MethodName) method_3_code 6 none :: ws) ({ frames := 0, cells := 0, slots := 0, locals := 0 } : Room)) (fun a U => a = #[(.ref r0), (.long q1), (.int p2)] ∧ Z.Warmed39 U.vm ∧ U.heap = h0) (fun _ _ _ _ _ => True) (fun _ U o U' => ∃ v L, o = .returned v ∧ Qpt Z r0 q1 p2 f h0 n0 v U'.heap L ∧ FrameEnd U o U' L ({ frames := 0, cells := 0, slots := 0, locals := 0 } : Room).cells ({ frames := 0, cells := 0, slots := 0, locals := 0 } : Room).slots) := by
  refine MetFree.of_bodySF (plainFor_of_name pn3) hisR ?_
  intro p e s m args below meth c s₁ Bd hml0 hP hK
  obtain ⟨rfl, hZ, hh⟩ := hP
  have hx := Bd.exec
  have hby := Bd.bytes
  have hml : c.maxLocals = 6 := hml0
  have hown : s.vm.findClass "com/example/canonic/canonic/RiceCodeDecodePinLaw" = some m.cls := findClass_of_methodNamed Bd.named
  have hnm := (name_of_methodNamed Bd.named Bd.method).1
  have X0 : Stand p l e ({ frames := 0, cells := 0, slots := 0, locals := 0 } : Room) s m #[(.ref r0), (.long q1), (.int p2)] below meth c s₁ [] 0 0 := Stand.of_body Bd
  have e0 : s₁.heap = h0 := by rw [← hh, Bd.state]; rfl
  have N0 := Fr.nil n0
  have K0 : Keep h0 h0 [r0] := Keep.refl h0 _
  show own_Go p e below s (Qpt Z r0 q1 p2 f h0 n0) ({ frames := 0, cells := 0, slots := 0, locals := 0 } : Room).cells ({ frames := 0, cells := 0, slots := 0, locals := 0 } : Room).slots (s₁.setTop (entryFrame m #[(.ref r0), (.long q1), (.int p2)] 6))
  refine own_go (fun t k => castTop (ef_pt m r0 q1 p2) k) ?_
  obtain ⟨v1, hv1⟩ : ∃ z : Int32, z = ((p2.toUInt32 >>> ((6 : Int32) &&& 31).toUInt32).toInt32) := ⟨_, rfl⟩
  obtain ⟨v2, hv2⟩ : ∃ z : Int32, z = (p2 &&& (63 : Int32)) := ⟨_, rfl⟩
  have hin22_101 : ¬ v1 < 0 ∧ v1.toNatClampNeg < 3 := (own_i3 hv1 hp0 hp1).2
  obtain ⟨v3, hv3⟩ : ∃ z : Int64, z = ((f v1.toNatClampNeg) ||| (q1 <<< (v2 &&& 0x3f).toInt64)) := ⟨_, rfl⟩
  have hin28_102 : ¬ v1 < 0 ∧ v1.toNatClampNeg < 3 := (own_i3 hv1 hp0 hp1).2
  obtain ⟨T103, h103, X103, e103, W103, B103, st103⟩ := own_stJ X0 hx hZ e0 A_r0 (j := v1) (x := v3) hin28_102 (g := (mkF m 28 #[.val (.ref r0), .val (.long q1), .second, .val (.int p2), .val (.int v1), .val (.int v2)] [(.long v3), (.int v1), (.ref r0)])) rfl rfl (hb hby d2_28)
  obtain ⟨v4, hv4⟩ : ∃ z : Nat → Int64, z = (own_up f (v1.toNatClampNeg) v3) := ⟨_, rfl⟩
  have B103n : own_AJ Z h103 r0 .long 3 v4 := by rw [hv4]; exact B103
  have Z104 : n0 ≤ h103.size := Nat.le_trans Z0 (Keep.of_wr W103).1
  have K105 : Keep h0 h103 [r0] := K0.wr W103 (Or.inl (List.mem_of_getElem? (i := 0) rfl))
  have N106 := Fr.snoc X103 N0 g_r0
  have hgo109 : ∀ t, Steps p.tables e below (T103.setTop (mkF m 31 #[.val (.ref r0), .val (.long q1), .second, .val (.int p2), .val (.int v1), .val (.int v2)] [(.int v2)])) t → Steps p.tables e below (s₁.setTop (mkF m 0 #[.val (.ref r0), .val (.long q1), .second, .val (.int p2), .unset, .unset] [])) t := by
    intro t kt
    show Steps p.tables e below (s₁.setTop (mkF m 0 #[.val (.ref r0), .val (.long q1), .second, .val (.int p2), .unset, .unset] [])) _
    refine XS.iloadN X0.here hx rfl (hb hby d2_0) rfl ?_
    refine XS.bipush X0.here hx rfl (hb hby d2_1) ?_
    refine XS.iushr X0.here hx rfl (hb hby d2_3) rfl ?_
    show Steps p.tables e below (s₁.setTop (mkF m 4 #[.val (.ref r0), .val (.long q1), .second, .val (.int p2), .unset, .unset] [(.int ((p2.toUInt32 >>> ((6 : Int32) &&& 31).toUInt32).toInt32))])) _
    rw [← hv1]
    show Steps p.tables e below (s₁.setTop (mkF m 4 #[.val (.ref r0), .val (.long q1), .second, .val (.int p2), .unset, .unset] [(.int v1)])) _
    refine XS.istore X0.here hx rfl (hb hby d2_4) rfl (l' := #[.val (.ref r0), .val (.long q1), .second, .val (.int p2), .val (.int v1), .unset]) rfl ?_
    show Steps p.tables e below (s₁.setTop (mkF m 6 #[.val (.ref r0), .val (.long q1), .second, .val (.int p2), .val (.int v1), .unset] [])) _
    refine XS.iloadN X0.here hx rfl (hb hby d2_6) rfl ?_
    refine XS.bipush X0.here hx rfl (hb hby d2_7) ?_
    refine XS.iand X0.here hx rfl (hb hby d2_9) rfl ?_
    show Steps p.tables e below (s₁.setTop (mkF m 10 #[.val (.ref r0), .val (.long q1), .second, .val (.int p2), .val (.int v1), .unset] [(.int (p2 &&& (63 : Int32)))])) _
    rw [← hv2]
    show Steps p.tables e below (s₁.setTop (mkF m 10 #[.val (.ref r0), .val (.long q1), .second, .val (.int p2), .val (.int v1), .unset] [(.int v2)])) _
    refine XS.istore X0.here hx rfl (hb hby d2_10) rfl (l' := #[.val (.ref r0), .val (.long q1), .second, .val (.int p2), .val (.int v1), .val (.int v2)]) rfl ?_
    show Steps p.tables e below (s₁.setTop (mkF m 12 #[.val (.ref r0), .val (.long q1), .second, .val (.int p2), .val (.int v1), .val (.int v2)] [])) _
    refine XS.iload X0.here hx rfl (hb hby d2_12) rfl ?_
    refine XS.iconst X0.here hx rfl (hb hby d2_14) ?_
    refine XS.icmpNo X0.here hx rfl (hb hby d2_15) rfl (tlt (own_i3 hv1 hp0 hp1).1).2.1 ?_
    show Steps p.tables e below (s₁.setTop (mkF m 18 #[.val (.ref r0), .val (.long q1), .second, .val (.int p2), .val (.int v1), .val (.int v2)] [])) _
    refine XS.aloadN X0.here hx rfl (hb hby d2_18) rfl rfl ?_
    refine XS.iload X0.here hx rfl (hb hby d2_19) rfl ?_
    show Steps p.tables e below (s₁.setTop (mkF m 21 #[.val (.ref r0), .val (.long q1), .second, .val (.int p2), .val (.int v1), .val (.int v2)] [(.int v1), (.ref r0)])) _
    jvm_step X0.here [X0.here.top, hx, (hb hby d2_21), Value.category]
    show Steps p.tables e below (s₁.setTop (mkF m 22 #[.val (.ref r0), .val (.long q1), .second, .val (.int p2), .val (.int v1), .val (.int v2)] [(.int v1), (.ref r0), (.int v1), (.ref r0)])) _
    refine own_ldJ X0 hx hZ e0 A_r0 (j := v1) hin22_101 (g := (mkF m 22 #[.val (.ref r0), .val (.long q1), .second, .val (.int p2), .val (.int v1), .val (.int v2)] [(.int v1), (.ref r0), (.int v1), (.ref r0)])) rfl rfl (hb hby d2_22) _ ?_
    show Steps p.tables e below (s₁.setTop (mkF m 23 #[.val (.ref r0), .val (.long q1), .second, .val (.int p2), .val (.int v1), .val (.int v2)] [(.long (f v1.toNatClampNeg)), (.int v1), (.ref r0)])) _
    refine XS.lloadN X0.here hx rfl (hb hby d2_23) rfl ?_
    refine XS.iload X0.here hx rfl (hb hby d2_24) rfl ?_
    refine XS.lshl X0.here hx rfl (hb hby d2_26) rfl ?_
    show Steps p.tables e below (s₁.setTop (mkF m 27 #[.val (.ref r0), .val (.long q1), .second, .val (.int p2), .val (.int v1), .val (.int v2)] [(.long (q1 <<< (v2 &&& 0x3f).toInt64)), (.long (f v1.toNatClampNeg)), (.int v1), (.ref r0)])) _
    refine XS.lor X0.here hx rfl (hb hby d2_27) rfl ?_
    show Steps p.tables e below (s₁.setTop (mkF m 28 #[.val (.ref r0), .val (.long q1), .second, .val (.int p2), .val (.int v1), .val (.int v2)] [(.long ((f v1.toNatClampNeg) ||| (q1 <<< (v2 &&& 0x3f).toInt64))), (.int v1), (.ref r0)])) _
    rw [← hv3]
    refine st103 _ ?_
    show Steps p.tables e below (T103.setTop (mkF m 29 #[.val (.ref r0), .val (.long q1), .second, .val (.int p2), .val (.int v1), .val (.int v2)] [])) _
    refine XS.iload X103.here hx rfl (hb hby d2_29) rfl ?_
    exact kt
  refine own_go hgo109 ?_
  by_cases hc31_5 : v2 = (0 : Int32)
  · have hgo110 : ∀ t, Steps p.tables e below (T103.setTop (mkF m 58 #[.val (.ref r0), .val (.long q1), .second, .val (.int p2), .val (.int v1), .val (.int v2)] [])) t → Steps p.tables e below (T103.setTop (mkF m 31 #[.val (.ref r0), .val (.long q1), .second, .val (.int p2), .val (.int v1), .val (.int v2)] [(.int v2)])) t := by
      intro t kt
      show Steps p.tables e below (T103.setTop (mkF m 31 #[.val (.ref r0), .val (.long q1), .second, .val (.int p2), .val (.int v1), .val (.int v2)] [(.int v2)])) _
      refine XS.ifYes X103.here hx rfl (pc0 := 31) (pc' := 58) rfl (hb hby d2_31) rfl ((if0 _ _).trans (teq hc31_5).1) (by decide) (by decide) ?_
      exact kt
    refine own_go hgo110 ?_
    exact own_retV X103 hx Bd.returns Bd.notSynchronized (hb hby d2_58) (by decide) (by decide) (by rw [e103]; exact ⟨(by rfl), N106, K105, (by rw [show own_rput f q1 p2 = v4 from by subst hv4 hv3 hv2 hv1; unfold own_rput; simp only [if_pos hc31_5]]; exact B103n)⟩)
  · have hgo112 : ∀ t, Steps p.tables e below (T103.setTop (mkF m 39 #[.val (.ref r0), .val (.long q1), .second, .val (.int p2), .val (.int v1), .val (.int v2)] [(.int (3 : Int32)), (.int (v1 + (1 : Int32)))])) t → Steps p.tables e below (T103.setTop (mkF m 31 #[.val (.ref r0), .val (.long q1), .second, .val (.int p2), .val (.int v1), .val (.int v2)] [(.int v2)])) t := by
      intro t kt
      show Steps p.tables e below (T103.setTop (mkF m 31 #[.val (.ref r0), .val (.long q1), .second, .val (.int p2), .val (.int v1), .val (.int v2)] [(.int v2)])) _
      refine XS.ifNo X103.here hx rfl (hb hby d2_31) rfl ((if0 _ _).trans (feq hc31_5).1) ?_
      show Steps p.tables e below (T103.setTop (mkF m 34 #[.val (.ref r0), .val (.long q1), .second, .val (.int p2), .val (.int v1), .val (.int v2)] [])) _
      refine XS.iload X103.here hx rfl (hb hby d2_34) rfl ?_
      refine XS.iconst X103.here hx rfl (hb hby d2_36) ?_
      refine XS.iadd X103.here hx rfl (hb hby d2_37) rfl ?_
      show Steps p.tables e below (T103.setTop (mkF m 38 #[.val (.ref r0), .val (.long q1), .second, .val (.int p2), .val (.int v1), .val (.int v2)] [(.int (v1 + (1 : Int32)))])) _
      refine XS.iconst X103.here hx rfl (hb hby d2_38) ?_
      exact kt
    refine own_go hgo112 ?_
    by_cases hc39_8 : (v1 + (1 : Int32)) < (3 : Int32)
    · obtain ⟨v10, hv10⟩ : ∃ z : Int32, z = (v1 + (1 : Int32)) := ⟨_, rfl⟩
      have hin48_113 : ¬ v10 < 0 ∧ v10.toNatClampNeg < 3 := own_i4 hv10 (own_i3 hv1 hp0 hp1) (by rw [hv10]; exact hc39_8)
      obtain ⟨v11, hv11⟩ : ∃ z : Int64, z = ((v4 v10.toNatClampNeg) ||| ((q1.toUInt64 >>> (((64 : Int32) - v2) &&& 0x3f).toInt64.toUInt64).toInt64)) := ⟨_, rfl⟩
      have hin57_114 : ¬ v10 < 0 ∧ v10.toNatClampNeg < 3 := own_i4 hv10 (own_i3 hv1 hp0 hp1) (by rw [hv10]; exact hc39_8)
      obtain ⟨T115, h115, X115, e115, W115, B115, st115⟩ := own_stJ X103 hx hZ e103 B103n (j := v10) (x := v11) hin57_114 (g := (mkF m 57 #[.val (.ref r0), .val (.long q1), .second, .val (.int p2), .val (.int v1), .val (.int v2)] [(.long v11), (.int v10), (.ref r0)])) rfl rfl (hb hby d2_57)
      obtain ⟨v12, hv12⟩ : ∃ z : Nat → Int64, z = (own_up v4 (v10.toNatClampNeg) v11) := ⟨_, rfl⟩
      have B115n : own_AJ Z h115 r0 .long 3 v12 := by rw [hv12]; exact B115
      have Z116 : n0 ≤ h115.size := Nat.le_trans Z104 (Keep.of_wr W115).1
      have K117 : Keep h0 h115 [r0] := K105.wr W115 (Or.inl (List.mem_of_getElem? (i := 0) rfl))
      have N118 := Fr.snoc X115 N106 g_r0
      have hgo119 : ∀ t, Steps p.tables e below (T115.setTop (mkF m 58 #[.val (.ref r0), .val (.long q1), .second, .val (.int p2), .val (.int v1), .val (.int v2)] [])) t → Steps p.tables e below (T103.setTop (mkF m 39 #[.val (.ref r0), .val (.long q1), .second, .val (.int p2), .val (.int v1), .val (.int v2)] [(.int (3 : Int32)), (.int (v1 + (1 : Int32)))])) t := by
        intro t kt
        show Steps p.tables e below (T103.setTop (mkF m 39 #[.val (.ref r0), .val (.long q1), .second, .val (.int p2), .val (.int v1), .val (.int v2)] [(.int (3 : Int32)), (.int (v1 + (1 : Int32)))])) _
        refine XS.icmpNo X103.here hx rfl (hb hby d2_39) rfl (tlt hc39_8).2.1 ?_
        show Steps p.tables e below (T103.setTop (mkF m 42 #[.val (.ref r0), .val (.long q1), .second, .val (.int p2), .val (.int v1), .val (.int v2)] [])) _
        refine XS.aloadN X103.here hx rfl (hb hby d2_42) rfl rfl ?_
        refine XS.iload X103.here hx rfl (hb hby d2_43) rfl ?_
        refine XS.iconst X103.here hx rfl (hb hby d2_45) ?_
        show Steps p.tables e below (T103.setTop (mkF m 46 #[.val (.ref r0), .val (.long q1), .second, .val (.int p2), .val (.int v1), .val (.int v2)] [(.int (1 : Int32)), (.int v1), (.ref r0)])) _
        refine XS.iadd X103.here hx rfl (hb hby d2_46) rfl ?_
        show Steps p.tables e below (T103.setTop (mkF m 47 #[.val (.ref r0), .val (.long q1), .second, .val (.int p2), .val (.int v1), .val (.int v2)] [(.int (v1 + (1 : Int32))), (.ref r0)])) _
        jvm_step X103.here [X103.here.top, hx, (hb hby d2_47), Value.category]
        show Steps p.tables e below (T103.setTop (mkF m 48 #[.val (.ref r0), .val (.long q1), .second, .val (.int p2), .val (.int v1), .val (.int v2)] [(.int (v1 + (1 : Int32))), (.ref r0), (.int (v1 + (1 : Int32))), (.ref r0)])) _
        rw [← hv10]
        refine own_ldJ X103 hx hZ e103 B103n (j := v10) hin48_113 (g := (mkF m 48 #[.val (.ref r0), .val (.long q1), .second, .val (.int p2), .val (.int v1), .val (.int v2)] [(.int v10), (.ref r0), (.int v10), (.ref r0)])) rfl rfl (hb hby d2_48) _ ?_
        show Steps p.tables e below (T103.setTop (mkF m 49 #[.val (.ref r0), .val (.long q1), .second, .val (.int p2), .val (.int v1), .val (.int v2)] [(.long (v4 v10.toNatClampNeg)), (.int v10), (.ref r0)])) _
        refine XS.lloadN X103.here hx rfl (hb hby d2_49) rfl ?_
        refine XS.bipush X103.here hx rfl (hb hby d2_50) ?_
        refine XS.iload X103.here hx rfl (hb hby d2_52) rfl ?_
        show Steps p.tables e below (T103.setTop (mkF m 54 #[.val (.ref r0), .val (.long q1), .second, .val (.int p2), .val (.int v1), .val (.int v2)] [(.int v2), (.int (64 : Int32)), (.long q1), (.long (v4 v10.toNatClampNeg)), (.int v10), (.ref r0)])) _
        refine XS.isub X103.here hx rfl (hb hby d2_54) rfl ?_
        show Steps p.tables e below (T103.setTop (mkF m 55 #[.val (.ref r0), .val (.long q1), .second, .val (.int p2), .val (.int v1), .val (.int v2)] [(.int ((64 : Int32) - v2)), (.long q1), (.long (v4 v10.toNatClampNeg)), (.int v10), (.ref r0)])) _
        refine XS.lushr X103.here hx rfl (hb hby d2_55) rfl ?_
        show Steps p.tables e below (T103.setTop (mkF m 56 #[.val (.ref r0), .val (.long q1), .second, .val (.int p2), .val (.int v1), .val (.int v2)] [(.long ((q1.toUInt64 >>> (((64 : Int32) - v2) &&& 0x3f).toInt64.toUInt64).toInt64)), (.long (v4 v10.toNatClampNeg)), (.int v10), (.ref r0)])) _
        refine XS.lor X103.here hx rfl (hb hby d2_56) rfl ?_
        show Steps p.tables e below (T103.setTop (mkF m 57 #[.val (.ref r0), .val (.long q1), .second, .val (.int p2), .val (.int v1), .val (.int v2)] [(.long ((v4 v10.toNatClampNeg) ||| ((q1.toUInt64 >>> (((64 : Int32) - v2) &&& 0x3f).toInt64.toUInt64).toInt64))), (.int v10), (.ref r0)])) _
        rw [← hv11]
        refine st115 _ ?_
        exact kt
      refine own_go hgo119 ?_
      exact own_retV X115 hx Bd.returns Bd.notSynchronized (hb hby d2_58) (by decide) (by decide) (by rw [e115]; exact ⟨(by rfl), N118, K117, (by rw [show own_rput f q1 p2 = v12 from by subst hv12 hv11 hv10 hv4 hv3 hv2 hv1; unfold own_rput; simp only [if_neg hc31_5, if_pos hc39_8]]; exact B115n)⟩)
    · have hgo120 : ∀ t, Steps p.tables e below (T103.setTop (mkF m 58 #[.val (.ref r0), .val (.long q1), .second, .val (.int p2), .val (.int v1), .val (.int v2)] [])) t → Steps p.tables e below (T103.setTop (mkF m 39 #[.val (.ref r0), .val (.long q1), .second, .val (.int p2), .val (.int v1), .val (.int v2)] [(.int (3 : Int32)), (.int (v1 + (1 : Int32)))])) t := by
        intro t kt
        show Steps p.tables e below (T103.setTop (mkF m 39 #[.val (.ref r0), .val (.long q1), .second, .val (.int p2), .val (.int v1), .val (.int v2)] [(.int (3 : Int32)), (.int (v1 + (1 : Int32)))])) _
        refine XS.icmpYes X103.here hx rfl (pc0 := 39) (pc' := 58) rfl (hb hby d2_39) rfl (flt hc39_8).2.1 (by decide) (by decide) ?_
        exact kt
      refine own_go hgo120 ?_
      exact own_retV X103 hx Bd.returns Bd.notSynchronized (hb hby d2_58) (by decide) (by decide) (by rw [e103]; exact ⟨(by rfl), N106, K105, (by rw [show own_rput f q1 p2 = v4 from by subst hv4 hv3 hv2 hv1; unfold own_rput; simp only [if_neg hc31_5, if_neg hc39_8]]; exact B103n)⟩)
theorem d3_0 : decode method_4_code 0 = .ok (.aload_n 0, 1) := by decide +kernel
theorem d3_1 : decode method_4_code 1 = .ok (.iload_n 1, 1) := by decide +kernel
theorem d3_2 : decode method_4_code 2 = .ok (.lload_n 2, 1) := by decide +kernel
theorem d3_3 : decode method_4_code 3 = .ok (.l2i, 1) := by decide +kernel
theorem d3_4 : decode method_4_code 4 = .ok (.i2b, 1) := by decide +kernel
theorem d3_5 : decode method_4_code 5 = .ok (.bastore, 1) := by decide +kernel
theorem d3_6 : decode method_4_code 6 = .ok (.aload_n 0, 1) := by decide +kernel
theorem d3_7 : decode method_4_code 7 = .ok (.iload_n 1, 1) := by decide +kernel
theorem d3_8 : decode method_4_code 8 = .ok (.iconst 1, 1) := by decide +kernel
theorem d3_9 : decode method_4_code 9 = .ok (.iadd, 1) := by decide +kernel
theorem d3_10 : decode method_4_code 10 = .ok (.lload_n 2, 1) := by decide +kernel
theorem d3_11 : decode method_4_code 11 = .ok (.bipush 8, 2) := by decide +kernel
theorem d3_13 : decode method_4_code 13 = .ok (.lushr, 1) := by decide +kernel
theorem d3_14 : decode method_4_code 14 = .ok (.l2i, 1) := by decide +kernel
theorem d3_15 : decode method_4_code 15 = .ok (.i2b, 1) := by decide +kernel
theorem d3_16 : decode method_4_code 16 = .ok (.bastore, 1) := by decide +kernel
theorem d3_17 : decode method_4_code 17 = .ok (.aload_n 0, 1) := by decide +kernel
theorem d3_18 : decode method_4_code 18 = .ok (.iload_n 1, 1) := by decide +kernel
theorem d3_19 : decode method_4_code 19 = .ok (.iconst 2, 1) := by decide +kernel
theorem d3_20 : decode method_4_code 20 = .ok (.iadd, 1) := by decide +kernel
theorem d3_21 : decode method_4_code 21 = .ok (.lload_n 2, 1) := by decide +kernel
theorem d3_22 : decode method_4_code 22 = .ok (.bipush 16, 2) := by decide +kernel
theorem d3_24 : decode method_4_code 24 = .ok (.lushr, 1) := by decide +kernel
theorem d3_25 : decode method_4_code 25 = .ok (.l2i, 1) := by decide +kernel
theorem d3_26 : decode method_4_code 26 = .ok (.i2b, 1) := by decide +kernel
theorem d3_27 : decode method_4_code 27 = .ok (.bastore, 1) := by decide +kernel
theorem d3_28 : decode method_4_code 28 = .ok (.aload_n 0, 1) := by decide +kernel
theorem d3_29 : decode method_4_code 29 = .ok (.iload_n 1, 1) := by decide +kernel
theorem d3_30 : decode method_4_code 30 = .ok (.iconst 3, 1) := by decide +kernel
theorem d3_31 : decode method_4_code 31 = .ok (.iadd, 1) := by decide +kernel
theorem d3_32 : decode method_4_code 32 = .ok (.lload_n 2, 1) := by decide +kernel
theorem d3_33 : decode method_4_code 33 = .ok (.bipush 24, 2) := by decide +kernel
theorem d3_35 : decode method_4_code 35 = .ok (.lushr, 1) := by decide +kernel
theorem d3_36 : decode method_4_code 36 = .ok (.l2i, 1) := by decide +kernel
theorem d3_37 : decode method_4_code 37 = .ok (.i2b, 1) := by decide +kernel
theorem d3_38 : decode method_4_code 38 = .ok (.bastore, 1) := by decide +kernel
theorem d3_39 : decode method_4_code 39 = .ok (.aload_n 0, 1) := by decide +kernel
theorem d3_40 : decode method_4_code 40 = .ok (.iload_n 1, 1) := by decide +kernel
theorem d3_41 : decode method_4_code 41 = .ok (.iconst 4, 1) := by decide +kernel
theorem d3_42 : decode method_4_code 42 = .ok (.iadd, 1) := by decide +kernel
theorem d3_43 : decode method_4_code 43 = .ok (.lload_n 2, 1) := by decide +kernel
theorem d3_44 : decode method_4_code 44 = .ok (.bipush 32, 2) := by decide +kernel
theorem d3_46 : decode method_4_code 46 = .ok (.lushr, 1) := by decide +kernel
theorem d3_47 : decode method_4_code 47 = .ok (.l2i, 1) := by decide +kernel
theorem d3_48 : decode method_4_code 48 = .ok (.i2b, 1) := by decide +kernel
theorem d3_49 : decode method_4_code 49 = .ok (.bastore, 1) := by decide +kernel
theorem d3_50 : decode method_4_code 50 = .ok (.aload_n 0, 1) := by decide +kernel
theorem d3_51 : decode method_4_code 51 = .ok (.iload_n 1, 1) := by decide +kernel
theorem d3_52 : decode method_4_code 52 = .ok (.iconst 5, 1) := by decide +kernel
theorem d3_53 : decode method_4_code 53 = .ok (.iadd, 1) := by decide +kernel
theorem d3_54 : decode method_4_code 54 = .ok (.lload_n 2, 1) := by decide +kernel
theorem d3_55 : decode method_4_code 55 = .ok (.bipush 40, 2) := by decide +kernel
theorem d3_57 : decode method_4_code 57 = .ok (.lushr, 1) := by decide +kernel
theorem d3_58 : decode method_4_code 58 = .ok (.l2i, 1) := by decide +kernel
theorem d3_59 : decode method_4_code 59 = .ok (.i2b, 1) := by decide +kernel
theorem d3_60 : decode method_4_code 60 = .ok (.bastore, 1) := by decide +kernel
theorem d3_61 : decode method_4_code 61 = .ok (.aload_n 0, 1) := by decide +kernel
theorem d3_62 : decode method_4_code 62 = .ok (.iload_n 1, 1) := by decide +kernel
theorem d3_63 : decode method_4_code 63 = .ok (.bipush 6, 2) := by decide +kernel
theorem d3_65 : decode method_4_code 65 = .ok (.iadd, 1) := by decide +kernel
theorem d3_66 : decode method_4_code 66 = .ok (.lload_n 2, 1) := by decide +kernel
theorem d3_67 : decode method_4_code 67 = .ok (.bipush 48, 2) := by decide +kernel
theorem d3_69 : decode method_4_code 69 = .ok (.lushr, 1) := by decide +kernel
theorem d3_70 : decode method_4_code 70 = .ok (.l2i, 1) := by decide +kernel
theorem d3_71 : decode method_4_code 71 = .ok (.i2b, 1) := by decide +kernel
theorem d3_72 : decode method_4_code 72 = .ok (.bastore, 1) := by decide +kernel
theorem d3_73 : decode method_4_code 73 = .ok (.aload_n 0, 1) := by decide +kernel
theorem d3_74 : decode method_4_code 74 = .ok (.iload_n 1, 1) := by decide +kernel
theorem d3_75 : decode method_4_code 75 = .ok (.bipush 7, 2) := by decide +kernel
theorem d3_77 : decode method_4_code 77 = .ok (.iadd, 1) := by decide +kernel
theorem d3_78 : decode method_4_code 78 = .ok (.lload_n 2, 1) := by decide +kernel
theorem d3_79 : decode method_4_code 79 = .ok (.bipush 56, 2) := by decide +kernel
theorem d3_81 : decode method_4_code 81 = .ok (.lushr, 1) := by decide +kernel
theorem d3_82 : decode method_4_code 82 = .ok (.l2i, 1) := by decide +kernel
theorem d3_83 : decode method_4_code 83 = .ok (.i2b, 1) := by decide +kernel
theorem d3_84 : decode method_4_code 84 = .ok (.bastore, 1) := by decide +kernel
theorem d3_85 : decode method_4_code 85 = .ok (.return_, 1) := by decide +kernel
theorem ef_p8_0 (m : MethodId) (r0 : Addr) (p1 : Int32) (q2 : Int64) : entryFrame m #[(.ref r0), (.int p1), (.long q2)] 4 = mkF m 0 #[.val (.ref r0), .val (.int p1), .val (.long q2), .second] [] := by (first | (simp [entryFrame, mkF, argsToLocals, Value.category]; done) | rfl)
def Qp8_0 (Z : State) (r0 : Addr) (p1 : Int32) (q2 : Int64) (f : Nat → Int32) (h0 : Heap) (n0 : Nat) (v : Option Value) (h : Heap) (L : List Loc) : Prop := v = none ∧ Fr n0 L ∧ Keep h0 h [r0] ∧ own_AI Z h r0 .byte 24 (own_up (own_up (own_up (own_up (own_up (own_up (own_up (own_up f 0 (nar .byte ((q2.toInt32).toInt8.toInt32))) 1 (nar .byte ((((q2.toUInt64 >>> ((8 : Int32) &&& 0x3f).toInt64.toUInt64).toInt64).toInt32).toInt8.toInt32))) 2 (nar .byte ((((q2.toUInt64 >>> ((16 : Int32) &&& 0x3f).toInt64.toUInt64).toInt64).toInt32).toInt8.toInt32))) 3 (nar .byte ((((q2.toUInt64 >>> ((24 : Int32) &&& 0x3f).toInt64.toUInt64).toInt64).toInt32).toInt8.toInt32))) 4 (nar .byte ((((q2.toUInt64 >>> ((32 : Int32) &&& 0x3f).toInt64.toUInt64).toInt64).toInt32).toInt8.toInt32))) 5 (nar .byte ((((q2.toUInt64 >>> ((40 : Int32) &&& 0x3f).toInt64.toUInt64).toInt64).toInt32).toInt8.toInt32))) 6 (nar .byte ((((q2.toUInt64 >>> ((48 : Int32) &&& 0x3f).toInt64.toUInt64).toInt64).toInt32).toInt8.toInt32))) 7 (nar .byte ((((q2.toUInt64 >>> ((56 : Int32) &&& 0x3f).toInt64.toUInt64).toInt64).toInt32).toInt8.toInt32)))
set_option maxRecDepth 65536 in
set_option maxHeartbeats 40000000 in
theorem rmp8_0 (l : Launch) (Z : State) (a0 : Array Value) (hw : ∀ d ∈ tables_1, d.before a0 Z = true) (ws : List Jvm.Cond) (r0 : Addr) (p1 : Int32) (q2 : Int64) (f : Nat → Int32) (h0 : Heap) (n0 : Nat) (Z0 : n0 ≤ h0.size) (A_r0 : own_AI Z h0 r0 .byte 24 f) (ho : p1 = (0 : Int32)) (g_r0 : n0 ≤ r0) :
    MetFree l (⟨"com/example/canonic/canonic/RiceCodeDecodePinLaw", "put8", "([BIJ)V"⟩ : MethodName) (head1 (Jvm.Cond.code (⟨"com/example/canonic/canonic/RiceCodeDecodePinLaw", "put8", "([BIJ)V"⟩ : MethodName) method_4_code 4 none :: ws) ({ frames := 0, cells := 0, slots := 0, locals := 0 } : Room)) (fun a U => a = #[(.ref r0), (.int p1), (.long q2)] ∧ Z.Warmed39 U.vm ∧ U.heap = h0) (fun _ _ _ _ _ => True) (fun _ U o U' => ∃ v L, o = .returned v ∧ Qp8_0 Z r0 p1 q2 f h0 n0 v U'.heap L ∧ FrameEnd U o U' L ({ frames := 0, cells := 0, slots := 0, locals := 0 } : Room).cells ({ frames := 0, cells := 0, slots := 0, locals := 0 } : Room).slots) := by
  refine MetFree.of_bodySF (plainFor_of_name pn3) hisR ?_
  intro p e s m args below meth c s₁ Bd hml0 hP hK
  obtain ⟨rfl, hZ, hh⟩ := hP
  have hx := Bd.exec
  have hby := Bd.bytes
  have hml : c.maxLocals = 4 := hml0
  have hown : s.vm.findClass "com/example/canonic/canonic/RiceCodeDecodePinLaw" = some m.cls := findClass_of_methodNamed Bd.named
  have hnm := (name_of_methodNamed Bd.named Bd.method).1
  have X0 : Stand p l e ({ frames := 0, cells := 0, slots := 0, locals := 0 } : Room) s m #[(.ref r0), (.int p1), (.long q2)] below meth c s₁ [] 0 0 := Stand.of_body Bd
  have e0 : s₁.heap = h0 := by rw [← hh, Bd.state]; rfl
  have N0 := Fr.nil n0
  have K0 : Keep h0 h0 [r0] := Keep.refl h0 _
  show own_Go p e below s (Qp8_0 Z r0 p1 q2 f h0 n0) ({ frames := 0, cells := 0, slots := 0, locals := 0 } : Room).cells ({ frames := 0, cells := 0, slots := 0, locals := 0 } : Room).slots (s₁.setTop (entryFrame m #[(.ref r0), (.int p1), (.long q2)] 4))
  refine own_go (fun t k => castTop (ef_p8_0 m r0 p1 q2) k) ?_
  obtain ⟨v1, hv1⟩ : ∃ z : Int32, z = ((q2.toInt32).toInt8.toInt32) := ⟨_, rfl⟩
  have hin5_101 : ¬ (0 : Int32) < 0 ∧ (0 : Int32).toNatClampNeg < 24 := by decide
  obtain ⟨T102, h102, X102, e102, W102, B102, st102⟩ := own_stB X0 hx hZ e0 A_r0 (j := (0 : Int32)) (x := v1) hin5_101 (g := (mkF m 5 #[.val (.ref r0), .val (.int (0 : Int32)), .val (.long q2), .second] [(.int v1), (.int (0 : Int32)), (.ref r0)])) rfl rfl (hb hby d3_5)
  obtain ⟨v2, hv2⟩ : ∃ z : Nat → Int32, z = (own_up f 0 (nar .byte v1)) := ⟨_, rfl⟩
  have B102n : own_AI Z h102 r0 .byte 24 v2 := by rw [hv2]; exact B102
  have Z103 : n0 ≤ h102.size := Nat.le_trans Z0 (Keep.of_wr W102).1
  have K104 : Keep h0 h102 [r0] := K0.wr W102 (Or.inl (List.mem_of_getElem? (i := 0) rfl))
  have N105 := Fr.snoc X102 N0 g_r0
  obtain ⟨v3, hv3⟩ : ∃ z : Int32, z = ((((q2.toUInt64 >>> ((8 : Int32) &&& 0x3f).toInt64.toUInt64).toInt64).toInt32).toInt8.toInt32) := ⟨_, rfl⟩
  have hin16_106 : ¬ (1 : Int32) < 0 ∧ (1 : Int32).toNatClampNeg < 24 := by decide
  obtain ⟨T107, h107, X107, e107, W107, B107, st107⟩ := own_stB X102 hx hZ e102 B102n (j := (1 : Int32)) (x := v3) hin16_106 (g := (mkF m 16 #[.val (.ref r0), .val (.int (0 : Int32)), .val (.long q2), .second] [(.int v3), (.int (1 : Int32)), (.ref r0)])) rfl rfl (hb hby d3_16)
  obtain ⟨v4, hv4⟩ : ∃ z : Nat → Int32, z = (own_up v2 1 (nar .byte v3)) := ⟨_, rfl⟩
  have B107n : own_AI Z h107 r0 .byte 24 v4 := by rw [hv4]; exact B107
  have Z108 : n0 ≤ h107.size := Nat.le_trans Z103 (Keep.of_wr W107).1
  have K109 : Keep h0 h107 [r0] := K104.wr W107 (Or.inl (List.mem_of_getElem? (i := 0) rfl))
  have N110 := Fr.snoc X107 N105 g_r0
  obtain ⟨v5, hv5⟩ : ∃ z : Int32, z = ((((q2.toUInt64 >>> ((16 : Int32) &&& 0x3f).toInt64.toUInt64).toInt64).toInt32).toInt8.toInt32) := ⟨_, rfl⟩
  have hin27_111 : ¬ (2 : Int32) < 0 ∧ (2 : Int32).toNatClampNeg < 24 := by decide
  obtain ⟨T112, h112, X112, e112, W112, B112, st112⟩ := own_stB X107 hx hZ e107 B107n (j := (2 : Int32)) (x := v5) hin27_111 (g := (mkF m 27 #[.val (.ref r0), .val (.int (0 : Int32)), .val (.long q2), .second] [(.int v5), (.int (2 : Int32)), (.ref r0)])) rfl rfl (hb hby d3_27)
  obtain ⟨v6, hv6⟩ : ∃ z : Nat → Int32, z = (own_up v4 2 (nar .byte v5)) := ⟨_, rfl⟩
  have B112n : own_AI Z h112 r0 .byte 24 v6 := by rw [hv6]; exact B112
  have Z113 : n0 ≤ h112.size := Nat.le_trans Z108 (Keep.of_wr W112).1
  have K114 : Keep h0 h112 [r0] := K109.wr W112 (Or.inl (List.mem_of_getElem? (i := 0) rfl))
  have N115 := Fr.snoc X112 N110 g_r0
  obtain ⟨v7, hv7⟩ : ∃ z : Int32, z = ((((q2.toUInt64 >>> ((24 : Int32) &&& 0x3f).toInt64.toUInt64).toInt64).toInt32).toInt8.toInt32) := ⟨_, rfl⟩
  have hin38_116 : ¬ (3 : Int32) < 0 ∧ (3 : Int32).toNatClampNeg < 24 := by decide
  obtain ⟨T117, h117, X117, e117, W117, B117, st117⟩ := own_stB X112 hx hZ e112 B112n (j := (3 : Int32)) (x := v7) hin38_116 (g := (mkF m 38 #[.val (.ref r0), .val (.int (0 : Int32)), .val (.long q2), .second] [(.int v7), (.int (3 : Int32)), (.ref r0)])) rfl rfl (hb hby d3_38)
  obtain ⟨v8, hv8⟩ : ∃ z : Nat → Int32, z = (own_up v6 3 (nar .byte v7)) := ⟨_, rfl⟩
  have B117n : own_AI Z h117 r0 .byte 24 v8 := by rw [hv8]; exact B117
  have Z118 : n0 ≤ h117.size := Nat.le_trans Z113 (Keep.of_wr W117).1
  have K119 : Keep h0 h117 [r0] := K114.wr W117 (Or.inl (List.mem_of_getElem? (i := 0) rfl))
  have N120 := Fr.snoc X117 N115 g_r0
  obtain ⟨v9, hv9⟩ : ∃ z : Int32, z = ((((q2.toUInt64 >>> ((32 : Int32) &&& 0x3f).toInt64.toUInt64).toInt64).toInt32).toInt8.toInt32) := ⟨_, rfl⟩
  have hin49_121 : ¬ (4 : Int32) < 0 ∧ (4 : Int32).toNatClampNeg < 24 := by decide
  obtain ⟨T122, h122, X122, e122, W122, B122, st122⟩ := own_stB X117 hx hZ e117 B117n (j := (4 : Int32)) (x := v9) hin49_121 (g := (mkF m 49 #[.val (.ref r0), .val (.int (0 : Int32)), .val (.long q2), .second] [(.int v9), (.int (4 : Int32)), (.ref r0)])) rfl rfl (hb hby d3_49)
  obtain ⟨v10, hv10⟩ : ∃ z : Nat → Int32, z = (own_up v8 4 (nar .byte v9)) := ⟨_, rfl⟩
  have B122n : own_AI Z h122 r0 .byte 24 v10 := by rw [hv10]; exact B122
  have Z123 : n0 ≤ h122.size := Nat.le_trans Z118 (Keep.of_wr W122).1
  have K124 : Keep h0 h122 [r0] := K119.wr W122 (Or.inl (List.mem_of_getElem? (i := 0) rfl))
  have N125 := Fr.snoc X122 N120 g_r0
  obtain ⟨v11, hv11⟩ : ∃ z : Int32, z = ((((q2.toUInt64 >>> ((40 : Int32) &&& 0x3f).toInt64.toUInt64).toInt64).toInt32).toInt8.toInt32) := ⟨_, rfl⟩
  have hin60_126 : ¬ (5 : Int32) < 0 ∧ (5 : Int32).toNatClampNeg < 24 := by decide
  obtain ⟨T127, h127, X127, e127, W127, B127, st127⟩ := own_stB X122 hx hZ e122 B122n (j := (5 : Int32)) (x := v11) hin60_126 (g := (mkF m 60 #[.val (.ref r0), .val (.int (0 : Int32)), .val (.long q2), .second] [(.int v11), (.int (5 : Int32)), (.ref r0)])) rfl rfl (hb hby d3_60)
  obtain ⟨v12, hv12⟩ : ∃ z : Nat → Int32, z = (own_up v10 5 (nar .byte v11)) := ⟨_, rfl⟩
  have B127n : own_AI Z h127 r0 .byte 24 v12 := by rw [hv12]; exact B127
  have Z128 : n0 ≤ h127.size := Nat.le_trans Z123 (Keep.of_wr W127).1
  have K129 : Keep h0 h127 [r0] := K124.wr W127 (Or.inl (List.mem_of_getElem? (i := 0) rfl))
  have N130 := Fr.snoc X127 N125 g_r0
  obtain ⟨v13, hv13⟩ : ∃ z : Int32, z = ((((q2.toUInt64 >>> ((48 : Int32) &&& 0x3f).toInt64.toUInt64).toInt64).toInt32).toInt8.toInt32) := ⟨_, rfl⟩
  have hin72_131 : ¬ (6 : Int32) < 0 ∧ (6 : Int32).toNatClampNeg < 24 := by decide
  obtain ⟨T132, h132, X132, e132, W132, B132, st132⟩ := own_stB X127 hx hZ e127 B127n (j := (6 : Int32)) (x := v13) hin72_131 (g := (mkF m 72 #[.val (.ref r0), .val (.int (0 : Int32)), .val (.long q2), .second] [(.int v13), (.int (6 : Int32)), (.ref r0)])) rfl rfl (hb hby d3_72)
  obtain ⟨v14, hv14⟩ : ∃ z : Nat → Int32, z = (own_up v12 6 (nar .byte v13)) := ⟨_, rfl⟩
  have B132n : own_AI Z h132 r0 .byte 24 v14 := by rw [hv14]; exact B132
  have Z133 : n0 ≤ h132.size := Nat.le_trans Z128 (Keep.of_wr W132).1
  have K134 : Keep h0 h132 [r0] := K129.wr W132 (Or.inl (List.mem_of_getElem? (i := 0) rfl))
  have N135 := Fr.snoc X132 N130 g_r0
  obtain ⟨v15, hv15⟩ : ∃ z : Int32, z = ((((q2.toUInt64 >>> ((56 : Int32) &&& 0x3f).toInt64.toUInt64).toInt64).toInt32).toInt8.toInt32) := ⟨_, rfl⟩
  have hin84_136 : ¬ (7 : Int32) < 0 ∧ (7 : Int32).toNatClampNeg < 24 := by decide
  obtain ⟨T137, h137, X137, e137, W137, B137, st137⟩ := own_stB X132 hx hZ e132 B132n (j := (7 : Int32)) (x := v15) hin84_136 (g := (mkF m 84 #[.val (.ref r0), .val (.int (0 : Int32)), .val (.long q2), .second] [(.int v15), (.int (7 : Int32)), (.ref r0)])) rfl rfl (hb hby d3_84)
  obtain ⟨v16, hv16⟩ : ∃ z : Nat → Int32, z = (own_up v14 7 (nar .byte v15)) := ⟨_, rfl⟩
  have B137n : own_AI Z h137 r0 .byte 24 v16 := by rw [hv16]; exact B137
  have Z138 : n0 ≤ h137.size := Nat.le_trans Z133 (Keep.of_wr W137).1
  have K139 : Keep h0 h137 [r0] := K134.wr W137 (Or.inl (List.mem_of_getElem? (i := 0) rfl))
  have N140 := Fr.snoc X137 N135 g_r0
  have hgo141 : ∀ t, Steps p.tables e below (T137.setTop (mkF m 85 #[.val (.ref r0), .val (.int (0 : Int32)), .val (.long q2), .second] [])) t → Steps p.tables e below (s₁.setTop (mkF m 0 #[.val (.ref r0), .val (.int p1), .val (.long q2), .second] [])) t := by
    intro t kt
    show Steps p.tables e below (s₁.setTop (mkF m 0 #[.val (.ref r0), .val (.int p1), .val (.long q2), .second] [])) _
    rw [ho]
    show Steps p.tables e below (s₁.setTop (mkF m 0 #[.val (.ref r0), .val (.int (0 : Int32)), .val (.long q2), .second] [])) _
    refine XS.aloadN X0.here hx rfl (hb hby d3_0) rfl rfl ?_
    refine XS.iloadN X0.here hx rfl (hb hby d3_1) rfl ?_
    refine XS.lloadN X0.here hx rfl (hb hby d3_2) rfl ?_
    show Steps p.tables e below (s₁.setTop (mkF m 3 #[.val (.ref r0), .val (.int (0 : Int32)), .val (.long q2), .second] [(.long q2), (.int (0 : Int32)), (.ref r0)])) _
    refine XS.l2i X0.here hx rfl (hb hby d3_3) rfl ?_
    show Steps p.tables e below (s₁.setTop (mkF m 4 #[.val (.ref r0), .val (.int (0 : Int32)), .val (.long q2), .second] [(.int (q2.toInt32)), (.int (0 : Int32)), (.ref r0)])) _
    refine XS.i2b X0.here hx rfl (hb hby d3_4) rfl ?_
    show Steps p.tables e below (s₁.setTop (mkF m 5 #[.val (.ref r0), .val (.int (0 : Int32)), .val (.long q2), .second] [(.int ((q2.toInt32).toInt8.toInt32)), (.int (0 : Int32)), (.ref r0)])) _
    rw [← hv1]
    refine st102 _ ?_
    show Steps p.tables e below (T102.setTop (mkF m 6 #[.val (.ref r0), .val (.int (0 : Int32)), .val (.long q2), .second] [])) _
    refine XS.aloadN X102.here hx rfl (hb hby d3_6) rfl rfl ?_
    refine XS.iloadN X102.here hx rfl (hb hby d3_7) rfl ?_
    refine XS.iconst X102.here hx rfl (hb hby d3_8) ?_
    show Steps p.tables e below (T102.setTop (mkF m 9 #[.val (.ref r0), .val (.int (0 : Int32)), .val (.long q2), .second] [(.int (1 : Int32)), (.int (0 : Int32)), (.ref r0)])) _
    refine XS.iadd X102.here hx rfl (hb hby d3_9) rfl ?_
    show Steps p.tables e below (T102.setTop (mkF m 10 #[.val (.ref r0), .val (.int (0 : Int32)), .val (.long q2), .second] [(.int (1 : Int32)), (.ref r0)])) _
    refine XS.lloadN X102.here hx rfl (hb hby d3_10) rfl ?_
    refine XS.bipush X102.here hx rfl (hb hby d3_11) ?_
    refine XS.lushr X102.here hx rfl (hb hby d3_13) rfl ?_
    show Steps p.tables e below (T102.setTop (mkF m 14 #[.val (.ref r0), .val (.int (0 : Int32)), .val (.long q2), .second] [(.long ((q2.toUInt64 >>> ((8 : Int32) &&& 0x3f).toInt64.toUInt64).toInt64)), (.int (1 : Int32)), (.ref r0)])) _
    refine XS.l2i X102.here hx rfl (hb hby d3_14) rfl ?_
    show Steps p.tables e below (T102.setTop (mkF m 15 #[.val (.ref r0), .val (.int (0 : Int32)), .val (.long q2), .second] [(.int (((q2.toUInt64 >>> ((8 : Int32) &&& 0x3f).toInt64.toUInt64).toInt64).toInt32)), (.int (1 : Int32)), (.ref r0)])) _
    refine XS.i2b X102.here hx rfl (hb hby d3_15) rfl ?_
    show Steps p.tables e below (T102.setTop (mkF m 16 #[.val (.ref r0), .val (.int (0 : Int32)), .val (.long q2), .second] [(.int ((((q2.toUInt64 >>> ((8 : Int32) &&& 0x3f).toInt64.toUInt64).toInt64).toInt32).toInt8.toInt32)), (.int (1 : Int32)), (.ref r0)])) _
    rw [← hv3]
    refine st107 _ ?_
    show Steps p.tables e below (T107.setTop (mkF m 17 #[.val (.ref r0), .val (.int (0 : Int32)), .val (.long q2), .second] [])) _
    refine XS.aloadN X107.here hx rfl (hb hby d3_17) rfl rfl ?_
    refine XS.iloadN X107.here hx rfl (hb hby d3_18) rfl ?_
    refine XS.iconst X107.here hx rfl (hb hby d3_19) ?_
    show Steps p.tables e below (T107.setTop (mkF m 20 #[.val (.ref r0), .val (.int (0 : Int32)), .val (.long q2), .second] [(.int (2 : Int32)), (.int (0 : Int32)), (.ref r0)])) _
    refine XS.iadd X107.here hx rfl (hb hby d3_20) rfl ?_
    show Steps p.tables e below (T107.setTop (mkF m 21 #[.val (.ref r0), .val (.int (0 : Int32)), .val (.long q2), .second] [(.int (2 : Int32)), (.ref r0)])) _
    refine XS.lloadN X107.here hx rfl (hb hby d3_21) rfl ?_
    refine XS.bipush X107.here hx rfl (hb hby d3_22) ?_
    refine XS.lushr X107.here hx rfl (hb hby d3_24) rfl ?_
    show Steps p.tables e below (T107.setTop (mkF m 25 #[.val (.ref r0), .val (.int (0 : Int32)), .val (.long q2), .second] [(.long ((q2.toUInt64 >>> ((16 : Int32) &&& 0x3f).toInt64.toUInt64).toInt64)), (.int (2 : Int32)), (.ref r0)])) _
    refine XS.l2i X107.here hx rfl (hb hby d3_25) rfl ?_
    show Steps p.tables e below (T107.setTop (mkF m 26 #[.val (.ref r0), .val (.int (0 : Int32)), .val (.long q2), .second] [(.int (((q2.toUInt64 >>> ((16 : Int32) &&& 0x3f).toInt64.toUInt64).toInt64).toInt32)), (.int (2 : Int32)), (.ref r0)])) _
    refine XS.i2b X107.here hx rfl (hb hby d3_26) rfl ?_
    show Steps p.tables e below (T107.setTop (mkF m 27 #[.val (.ref r0), .val (.int (0 : Int32)), .val (.long q2), .second] [(.int ((((q2.toUInt64 >>> ((16 : Int32) &&& 0x3f).toInt64.toUInt64).toInt64).toInt32).toInt8.toInt32)), (.int (2 : Int32)), (.ref r0)])) _
    rw [← hv5]
    refine st112 _ ?_
    show Steps p.tables e below (T112.setTop (mkF m 28 #[.val (.ref r0), .val (.int (0 : Int32)), .val (.long q2), .second] [])) _
    refine XS.aloadN X112.here hx rfl (hb hby d3_28) rfl rfl ?_
    refine XS.iloadN X112.here hx rfl (hb hby d3_29) rfl ?_
    refine XS.iconst X112.here hx rfl (hb hby d3_30) ?_
    show Steps p.tables e below (T112.setTop (mkF m 31 #[.val (.ref r0), .val (.int (0 : Int32)), .val (.long q2), .second] [(.int (3 : Int32)), (.int (0 : Int32)), (.ref r0)])) _
    refine XS.iadd X112.here hx rfl (hb hby d3_31) rfl ?_
    show Steps p.tables e below (T112.setTop (mkF m 32 #[.val (.ref r0), .val (.int (0 : Int32)), .val (.long q2), .second] [(.int (3 : Int32)), (.ref r0)])) _
    refine XS.lloadN X112.here hx rfl (hb hby d3_32) rfl ?_
    refine XS.bipush X112.here hx rfl (hb hby d3_33) ?_
    refine XS.lushr X112.here hx rfl (hb hby d3_35) rfl ?_
    show Steps p.tables e below (T112.setTop (mkF m 36 #[.val (.ref r0), .val (.int (0 : Int32)), .val (.long q2), .second] [(.long ((q2.toUInt64 >>> ((24 : Int32) &&& 0x3f).toInt64.toUInt64).toInt64)), (.int (3 : Int32)), (.ref r0)])) _
    refine XS.l2i X112.here hx rfl (hb hby d3_36) rfl ?_
    show Steps p.tables e below (T112.setTop (mkF m 37 #[.val (.ref r0), .val (.int (0 : Int32)), .val (.long q2), .second] [(.int (((q2.toUInt64 >>> ((24 : Int32) &&& 0x3f).toInt64.toUInt64).toInt64).toInt32)), (.int (3 : Int32)), (.ref r0)])) _
    refine XS.i2b X112.here hx rfl (hb hby d3_37) rfl ?_
    show Steps p.tables e below (T112.setTop (mkF m 38 #[.val (.ref r0), .val (.int (0 : Int32)), .val (.long q2), .second] [(.int ((((q2.toUInt64 >>> ((24 : Int32) &&& 0x3f).toInt64.toUInt64).toInt64).toInt32).toInt8.toInt32)), (.int (3 : Int32)), (.ref r0)])) _
    rw [← hv7]
    refine st117 _ ?_
    show Steps p.tables e below (T117.setTop (mkF m 39 #[.val (.ref r0), .val (.int (0 : Int32)), .val (.long q2), .second] [])) _
    refine XS.aloadN X117.here hx rfl (hb hby d3_39) rfl rfl ?_
    refine XS.iloadN X117.here hx rfl (hb hby d3_40) rfl ?_
    refine XS.iconst X117.here hx rfl (hb hby d3_41) ?_
    show Steps p.tables e below (T117.setTop (mkF m 42 #[.val (.ref r0), .val (.int (0 : Int32)), .val (.long q2), .second] [(.int (4 : Int32)), (.int (0 : Int32)), (.ref r0)])) _
    refine XS.iadd X117.here hx rfl (hb hby d3_42) rfl ?_
    show Steps p.tables e below (T117.setTop (mkF m 43 #[.val (.ref r0), .val (.int (0 : Int32)), .val (.long q2), .second] [(.int (4 : Int32)), (.ref r0)])) _
    refine XS.lloadN X117.here hx rfl (hb hby d3_43) rfl ?_
    refine XS.bipush X117.here hx rfl (hb hby d3_44) ?_
    refine XS.lushr X117.here hx rfl (hb hby d3_46) rfl ?_
    show Steps p.tables e below (T117.setTop (mkF m 47 #[.val (.ref r0), .val (.int (0 : Int32)), .val (.long q2), .second] [(.long ((q2.toUInt64 >>> ((32 : Int32) &&& 0x3f).toInt64.toUInt64).toInt64)), (.int (4 : Int32)), (.ref r0)])) _
    refine XS.l2i X117.here hx rfl (hb hby d3_47) rfl ?_
    show Steps p.tables e below (T117.setTop (mkF m 48 #[.val (.ref r0), .val (.int (0 : Int32)), .val (.long q2), .second] [(.int (((q2.toUInt64 >>> ((32 : Int32) &&& 0x3f).toInt64.toUInt64).toInt64).toInt32)), (.int (4 : Int32)), (.ref r0)])) _
    refine XS.i2b X117.here hx rfl (hb hby d3_48) rfl ?_
    show Steps p.tables e below (T117.setTop (mkF m 49 #[.val (.ref r0), .val (.int (0 : Int32)), .val (.long q2), .second] [(.int ((((q2.toUInt64 >>> ((32 : Int32) &&& 0x3f).toInt64.toUInt64).toInt64).toInt32).toInt8.toInt32)), (.int (4 : Int32)), (.ref r0)])) _
    rw [← hv9]
    refine st122 _ ?_
    show Steps p.tables e below (T122.setTop (mkF m 50 #[.val (.ref r0), .val (.int (0 : Int32)), .val (.long q2), .second] [])) _
    refine XS.aloadN X122.here hx rfl (hb hby d3_50) rfl rfl ?_
    refine XS.iloadN X122.here hx rfl (hb hby d3_51) rfl ?_
    refine XS.iconst X122.here hx rfl (hb hby d3_52) ?_
    show Steps p.tables e below (T122.setTop (mkF m 53 #[.val (.ref r0), .val (.int (0 : Int32)), .val (.long q2), .second] [(.int (5 : Int32)), (.int (0 : Int32)), (.ref r0)])) _
    refine XS.iadd X122.here hx rfl (hb hby d3_53) rfl ?_
    show Steps p.tables e below (T122.setTop (mkF m 54 #[.val (.ref r0), .val (.int (0 : Int32)), .val (.long q2), .second] [(.int (5 : Int32)), (.ref r0)])) _
    refine XS.lloadN X122.here hx rfl (hb hby d3_54) rfl ?_
    refine XS.bipush X122.here hx rfl (hb hby d3_55) ?_
    refine XS.lushr X122.here hx rfl (hb hby d3_57) rfl ?_
    show Steps p.tables e below (T122.setTop (mkF m 58 #[.val (.ref r0), .val (.int (0 : Int32)), .val (.long q2), .second] [(.long ((q2.toUInt64 >>> ((40 : Int32) &&& 0x3f).toInt64.toUInt64).toInt64)), (.int (5 : Int32)), (.ref r0)])) _
    refine XS.l2i X122.here hx rfl (hb hby d3_58) rfl ?_
    show Steps p.tables e below (T122.setTop (mkF m 59 #[.val (.ref r0), .val (.int (0 : Int32)), .val (.long q2), .second] [(.int (((q2.toUInt64 >>> ((40 : Int32) &&& 0x3f).toInt64.toUInt64).toInt64).toInt32)), (.int (5 : Int32)), (.ref r0)])) _
    refine XS.i2b X122.here hx rfl (hb hby d3_59) rfl ?_
    show Steps p.tables e below (T122.setTop (mkF m 60 #[.val (.ref r0), .val (.int (0 : Int32)), .val (.long q2), .second] [(.int ((((q2.toUInt64 >>> ((40 : Int32) &&& 0x3f).toInt64.toUInt64).toInt64).toInt32).toInt8.toInt32)), (.int (5 : Int32)), (.ref r0)])) _
    rw [← hv11]
    refine st127 _ ?_
    show Steps p.tables e below (T127.setTop (mkF m 61 #[.val (.ref r0), .val (.int (0 : Int32)), .val (.long q2), .second] [])) _
    refine XS.aloadN X127.here hx rfl (hb hby d3_61) rfl rfl ?_
    refine XS.iloadN X127.here hx rfl (hb hby d3_62) rfl ?_
    refine XS.bipush X127.here hx rfl (hb hby d3_63) ?_
    show Steps p.tables e below (T127.setTop (mkF m 65 #[.val (.ref r0), .val (.int (0 : Int32)), .val (.long q2), .second] [(.int (6 : Int32)), (.int (0 : Int32)), (.ref r0)])) _
    refine XS.iadd X127.here hx rfl (hb hby d3_65) rfl ?_
    show Steps p.tables e below (T127.setTop (mkF m 66 #[.val (.ref r0), .val (.int (0 : Int32)), .val (.long q2), .second] [(.int (6 : Int32)), (.ref r0)])) _
    refine XS.lloadN X127.here hx rfl (hb hby d3_66) rfl ?_
    refine XS.bipush X127.here hx rfl (hb hby d3_67) ?_
    refine XS.lushr X127.here hx rfl (hb hby d3_69) rfl ?_
    show Steps p.tables e below (T127.setTop (mkF m 70 #[.val (.ref r0), .val (.int (0 : Int32)), .val (.long q2), .second] [(.long ((q2.toUInt64 >>> ((48 : Int32) &&& 0x3f).toInt64.toUInt64).toInt64)), (.int (6 : Int32)), (.ref r0)])) _
    refine XS.l2i X127.here hx rfl (hb hby d3_70) rfl ?_
    show Steps p.tables e below (T127.setTop (mkF m 71 #[.val (.ref r0), .val (.int (0 : Int32)), .val (.long q2), .second] [(.int (((q2.toUInt64 >>> ((48 : Int32) &&& 0x3f).toInt64.toUInt64).toInt64).toInt32)), (.int (6 : Int32)), (.ref r0)])) _
    refine XS.i2b X127.here hx rfl (hb hby d3_71) rfl ?_
    show Steps p.tables e below (T127.setTop (mkF m 72 #[.val (.ref r0), .val (.int (0 : Int32)), .val (.long q2), .second] [(.int ((((q2.toUInt64 >>> ((48 : Int32) &&& 0x3f).toInt64.toUInt64).toInt64).toInt32).toInt8.toInt32)), (.int (6 : Int32)), (.ref r0)])) _
    rw [← hv13]
    refine st132 _ ?_
    show Steps p.tables e below (T132.setTop (mkF m 73 #[.val (.ref r0), .val (.int (0 : Int32)), .val (.long q2), .second] [])) _
    refine XS.aloadN X132.here hx rfl (hb hby d3_73) rfl rfl ?_
    refine XS.iloadN X132.here hx rfl (hb hby d3_74) rfl ?_
    refine XS.bipush X132.here hx rfl (hb hby d3_75) ?_
    show Steps p.tables e below (T132.setTop (mkF m 77 #[.val (.ref r0), .val (.int (0 : Int32)), .val (.long q2), .second] [(.int (7 : Int32)), (.int (0 : Int32)), (.ref r0)])) _
    refine XS.iadd X132.here hx rfl (hb hby d3_77) rfl ?_
    show Steps p.tables e below (T132.setTop (mkF m 78 #[.val (.ref r0), .val (.int (0 : Int32)), .val (.long q2), .second] [(.int (7 : Int32)), (.ref r0)])) _
    refine XS.lloadN X132.here hx rfl (hb hby d3_78) rfl ?_
    refine XS.bipush X132.here hx rfl (hb hby d3_79) ?_
    refine XS.lushr X132.here hx rfl (hb hby d3_81) rfl ?_
    show Steps p.tables e below (T132.setTop (mkF m 82 #[.val (.ref r0), .val (.int (0 : Int32)), .val (.long q2), .second] [(.long ((q2.toUInt64 >>> ((56 : Int32) &&& 0x3f).toInt64.toUInt64).toInt64)), (.int (7 : Int32)), (.ref r0)])) _
    refine XS.l2i X132.here hx rfl (hb hby d3_82) rfl ?_
    show Steps p.tables e below (T132.setTop (mkF m 83 #[.val (.ref r0), .val (.int (0 : Int32)), .val (.long q2), .second] [(.int (((q2.toUInt64 >>> ((56 : Int32) &&& 0x3f).toInt64.toUInt64).toInt64).toInt32)), (.int (7 : Int32)), (.ref r0)])) _
    refine XS.i2b X132.here hx rfl (hb hby d3_83) rfl ?_
    show Steps p.tables e below (T132.setTop (mkF m 84 #[.val (.ref r0), .val (.int (0 : Int32)), .val (.long q2), .second] [(.int ((((q2.toUInt64 >>> ((56 : Int32) &&& 0x3f).toInt64.toUInt64).toInt64).toInt32).toInt8.toInt32)), (.int (7 : Int32)), (.ref r0)])) _
    rw [← hv15]
    refine st137 _ ?_
    exact kt
  refine own_go hgo141 ?_
  exact own_retV X137 hx Bd.returns Bd.notSynchronized (hb hby d3_85) (by decide) (by decide) (by rw [e137]; exact ⟨(by rfl), N140, K139, (by subst hv16 hv15 hv14 hv13 hv12 hv11 hv10 hv9 hv8 hv7 hv6 hv5 hv4 hv3 hv2 hv1; exact B137n)⟩)
theorem ef_p8_8 (m : MethodId) (r0 : Addr) (p1 : Int32) (q2 : Int64) : entryFrame m #[(.ref r0), (.int p1), (.long q2)] 4 = mkF m 0 #[.val (.ref r0), .val (.int p1), .val (.long q2), .second] [] := by (first | (simp [entryFrame, mkF, argsToLocals, Value.category]; done) | rfl)
def Qp8_8 (Z : State) (r0 : Addr) (p1 : Int32) (q2 : Int64) (f : Nat → Int32) (h0 : Heap) (n0 : Nat) (v : Option Value) (h : Heap) (L : List Loc) : Prop := v = none ∧ Fr n0 L ∧ Keep h0 h [r0] ∧ own_AI Z h r0 .byte 24 (own_up (own_up (own_up (own_up (own_up (own_up (own_up (own_up f 8 (nar .byte ((q2.toInt32).toInt8.toInt32))) 9 (nar .byte ((((q2.toUInt64 >>> ((8 : Int32) &&& 0x3f).toInt64.toUInt64).toInt64).toInt32).toInt8.toInt32))) 10 (nar .byte ((((q2.toUInt64 >>> ((16 : Int32) &&& 0x3f).toInt64.toUInt64).toInt64).toInt32).toInt8.toInt32))) 11 (nar .byte ((((q2.toUInt64 >>> ((24 : Int32) &&& 0x3f).toInt64.toUInt64).toInt64).toInt32).toInt8.toInt32))) 12 (nar .byte ((((q2.toUInt64 >>> ((32 : Int32) &&& 0x3f).toInt64.toUInt64).toInt64).toInt32).toInt8.toInt32))) 13 (nar .byte ((((q2.toUInt64 >>> ((40 : Int32) &&& 0x3f).toInt64.toUInt64).toInt64).toInt32).toInt8.toInt32))) 14 (nar .byte ((((q2.toUInt64 >>> ((48 : Int32) &&& 0x3f).toInt64.toUInt64).toInt64).toInt32).toInt8.toInt32))) 15 (nar .byte ((((q2.toUInt64 >>> ((56 : Int32) &&& 0x3f).toInt64.toUInt64).toInt64).toInt32).toInt8.toInt32)))
set_option maxRecDepth 65536 in
set_option maxHeartbeats 40000000 in
theorem rmp8_8 (l : Launch) (Z : State) (a0 : Array Value) (hw : ∀ d ∈ tables_1, d.before a0 Z = true) (ws : List Jvm.Cond) (r0 : Addr) (p1 : Int32) (q2 : Int64) (f : Nat → Int32) (h0 : Heap) (n0 : Nat) (Z0 : n0 ≤ h0.size) (A_r0 : own_AI Z h0 r0 .byte 24 f) (ho : p1 = (8 : Int32)) (g_r0 : n0 ≤ r0) :
    MetFree l (⟨"com/example/canonic/canonic/RiceCodeDecodePinLaw", "put8", "([BIJ)V"⟩ : MethodName) (head1 (Jvm.Cond.code (⟨"com/example/canonic/canonic/RiceCodeDecodePinLaw", "put8", "([BIJ)V"⟩ : MethodName) method_4_code 4 none :: ws) ({ frames := 0, cells := 0, slots := 0, locals := 0 } : Room)) (fun a U => a = #[(.ref r0), (.int p1), (.long q2)] ∧ Z.Warmed39 U.vm ∧ U.heap = h0) (fun _ _ _ _ _ => True) (fun _ U o U' => ∃ v L, o = .returned v ∧ Qp8_8 Z r0 p1 q2 f h0 n0 v U'.heap L ∧ FrameEnd U o U' L ({ frames := 0, cells := 0, slots := 0, locals := 0 } : Room).cells ({ frames := 0, cells := 0, slots := 0, locals := 0 } : Room).slots) := by
  refine MetFree.of_bodySF (plainFor_of_name pn3) hisR ?_
  intro p e s m args below meth c s₁ Bd hml0 hP hK
  obtain ⟨rfl, hZ, hh⟩ := hP
  have hx := Bd.exec
  have hby := Bd.bytes
  have hml : c.maxLocals = 4 := hml0
  have hown : s.vm.findClass "com/example/canonic/canonic/RiceCodeDecodePinLaw" = some m.cls := findClass_of_methodNamed Bd.named
  have hnm := (name_of_methodNamed Bd.named Bd.method).1
  have X0 : Stand p l e ({ frames := 0, cells := 0, slots := 0, locals := 0 } : Room) s m #[(.ref r0), (.int p1), (.long q2)] below meth c s₁ [] 0 0 := Stand.of_body Bd
  have e0 : s₁.heap = h0 := by rw [← hh, Bd.state]; rfl
  have N0 := Fr.nil n0
  have K0 : Keep h0 h0 [r0] := Keep.refl h0 _
  show own_Go p e below s (Qp8_8 Z r0 p1 q2 f h0 n0) ({ frames := 0, cells := 0, slots := 0, locals := 0 } : Room).cells ({ frames := 0, cells := 0, slots := 0, locals := 0 } : Room).slots (s₁.setTop (entryFrame m #[(.ref r0), (.int p1), (.long q2)] 4))
  refine own_go (fun t k => castTop (ef_p8_8 m r0 p1 q2) k) ?_
  obtain ⟨v1, hv1⟩ : ∃ z : Int32, z = ((q2.toInt32).toInt8.toInt32) := ⟨_, rfl⟩
  have hin5_101 : ¬ (8 : Int32) < 0 ∧ (8 : Int32).toNatClampNeg < 24 := by decide
  obtain ⟨T102, h102, X102, e102, W102, B102, st102⟩ := own_stB X0 hx hZ e0 A_r0 (j := (8 : Int32)) (x := v1) hin5_101 (g := (mkF m 5 #[.val (.ref r0), .val (.int (8 : Int32)), .val (.long q2), .second] [(.int v1), (.int (8 : Int32)), (.ref r0)])) rfl rfl (hb hby d3_5)
  obtain ⟨v2, hv2⟩ : ∃ z : Nat → Int32, z = (own_up f 8 (nar .byte v1)) := ⟨_, rfl⟩
  have B102n : own_AI Z h102 r0 .byte 24 v2 := by rw [hv2]; exact B102
  have Z103 : n0 ≤ h102.size := Nat.le_trans Z0 (Keep.of_wr W102).1
  have K104 : Keep h0 h102 [r0] := K0.wr W102 (Or.inl (List.mem_of_getElem? (i := 0) rfl))
  have N105 := Fr.snoc X102 N0 g_r0
  obtain ⟨v3, hv3⟩ : ∃ z : Int32, z = ((((q2.toUInt64 >>> ((8 : Int32) &&& 0x3f).toInt64.toUInt64).toInt64).toInt32).toInt8.toInt32) := ⟨_, rfl⟩
  have hin16_106 : ¬ (9 : Int32) < 0 ∧ (9 : Int32).toNatClampNeg < 24 := by decide
  obtain ⟨T107, h107, X107, e107, W107, B107, st107⟩ := own_stB X102 hx hZ e102 B102n (j := (9 : Int32)) (x := v3) hin16_106 (g := (mkF m 16 #[.val (.ref r0), .val (.int (8 : Int32)), .val (.long q2), .second] [(.int v3), (.int (9 : Int32)), (.ref r0)])) rfl rfl (hb hby d3_16)
  obtain ⟨v4, hv4⟩ : ∃ z : Nat → Int32, z = (own_up v2 9 (nar .byte v3)) := ⟨_, rfl⟩
  have B107n : own_AI Z h107 r0 .byte 24 v4 := by rw [hv4]; exact B107
  have Z108 : n0 ≤ h107.size := Nat.le_trans Z103 (Keep.of_wr W107).1
  have K109 : Keep h0 h107 [r0] := K104.wr W107 (Or.inl (List.mem_of_getElem? (i := 0) rfl))
  have N110 := Fr.snoc X107 N105 g_r0
  obtain ⟨v5, hv5⟩ : ∃ z : Int32, z = ((((q2.toUInt64 >>> ((16 : Int32) &&& 0x3f).toInt64.toUInt64).toInt64).toInt32).toInt8.toInt32) := ⟨_, rfl⟩
  have hin27_111 : ¬ (10 : Int32) < 0 ∧ (10 : Int32).toNatClampNeg < 24 := by decide
  obtain ⟨T112, h112, X112, e112, W112, B112, st112⟩ := own_stB X107 hx hZ e107 B107n (j := (10 : Int32)) (x := v5) hin27_111 (g := (mkF m 27 #[.val (.ref r0), .val (.int (8 : Int32)), .val (.long q2), .second] [(.int v5), (.int (10 : Int32)), (.ref r0)])) rfl rfl (hb hby d3_27)
  obtain ⟨v6, hv6⟩ : ∃ z : Nat → Int32, z = (own_up v4 10 (nar .byte v5)) := ⟨_, rfl⟩
  have B112n : own_AI Z h112 r0 .byte 24 v6 := by rw [hv6]; exact B112
  have Z113 : n0 ≤ h112.size := Nat.le_trans Z108 (Keep.of_wr W112).1
  have K114 : Keep h0 h112 [r0] := K109.wr W112 (Or.inl (List.mem_of_getElem? (i := 0) rfl))
  have N115 := Fr.snoc X112 N110 g_r0
  obtain ⟨v7, hv7⟩ : ∃ z : Int32, z = ((((q2.toUInt64 >>> ((24 : Int32) &&& 0x3f).toInt64.toUInt64).toInt64).toInt32).toInt8.toInt32) := ⟨_, rfl⟩
  have hin38_116 : ¬ (11 : Int32) < 0 ∧ (11 : Int32).toNatClampNeg < 24 := by decide
  obtain ⟨T117, h117, X117, e117, W117, B117, st117⟩ := own_stB X112 hx hZ e112 B112n (j := (11 : Int32)) (x := v7) hin38_116 (g := (mkF m 38 #[.val (.ref r0), .val (.int (8 : Int32)), .val (.long q2), .second] [(.int v7), (.int (11 : Int32)), (.ref r0)])) rfl rfl (hb hby d3_38)
  obtain ⟨v8, hv8⟩ : ∃ z : Nat → Int32, z = (own_up v6 11 (nar .byte v7)) := ⟨_, rfl⟩
  have B117n : own_AI Z h117 r0 .byte 24 v8 := by rw [hv8]; exact B117
  have Z118 : n0 ≤ h117.size := Nat.le_trans Z113 (Keep.of_wr W117).1
  have K119 : Keep h0 h117 [r0] := K114.wr W117 (Or.inl (List.mem_of_getElem? (i := 0) rfl))
  have N120 := Fr.snoc X117 N115 g_r0
  obtain ⟨v9, hv9⟩ : ∃ z : Int32, z = ((((q2.toUInt64 >>> ((32 : Int32) &&& 0x3f).toInt64.toUInt64).toInt64).toInt32).toInt8.toInt32) := ⟨_, rfl⟩
  have hin49_121 : ¬ (12 : Int32) < 0 ∧ (12 : Int32).toNatClampNeg < 24 := by decide
  obtain ⟨T122, h122, X122, e122, W122, B122, st122⟩ := own_stB X117 hx hZ e117 B117n (j := (12 : Int32)) (x := v9) hin49_121 (g := (mkF m 49 #[.val (.ref r0), .val (.int (8 : Int32)), .val (.long q2), .second] [(.int v9), (.int (12 : Int32)), (.ref r0)])) rfl rfl (hb hby d3_49)
  obtain ⟨v10, hv10⟩ : ∃ z : Nat → Int32, z = (own_up v8 12 (nar .byte v9)) := ⟨_, rfl⟩
  have B122n : own_AI Z h122 r0 .byte 24 v10 := by rw [hv10]; exact B122
  have Z123 : n0 ≤ h122.size := Nat.le_trans Z118 (Keep.of_wr W122).1
  have K124 : Keep h0 h122 [r0] := K119.wr W122 (Or.inl (List.mem_of_getElem? (i := 0) rfl))
  have N125 := Fr.snoc X122 N120 g_r0
  obtain ⟨v11, hv11⟩ : ∃ z : Int32, z = ((((q2.toUInt64 >>> ((40 : Int32) &&& 0x3f).toInt64.toUInt64).toInt64).toInt32).toInt8.toInt32) := ⟨_, rfl⟩
  have hin60_126 : ¬ (13 : Int32) < 0 ∧ (13 : Int32).toNatClampNeg < 24 := by decide
  obtain ⟨T127, h127, X127, e127, W127, B127, st127⟩ := own_stB X122 hx hZ e122 B122n (j := (13 : Int32)) (x := v11) hin60_126 (g := (mkF m 60 #[.val (.ref r0), .val (.int (8 : Int32)), .val (.long q2), .second] [(.int v11), (.int (13 : Int32)), (.ref r0)])) rfl rfl (hb hby d3_60)
  obtain ⟨v12, hv12⟩ : ∃ z : Nat → Int32, z = (own_up v10 13 (nar .byte v11)) := ⟨_, rfl⟩
  have B127n : own_AI Z h127 r0 .byte 24 v12 := by rw [hv12]; exact B127
  have Z128 : n0 ≤ h127.size := Nat.le_trans Z123 (Keep.of_wr W127).1
  have K129 : Keep h0 h127 [r0] := K124.wr W127 (Or.inl (List.mem_of_getElem? (i := 0) rfl))
  have N130 := Fr.snoc X127 N125 g_r0
  obtain ⟨v13, hv13⟩ : ∃ z : Int32, z = ((((q2.toUInt64 >>> ((48 : Int32) &&& 0x3f).toInt64.toUInt64).toInt64).toInt32).toInt8.toInt32) := ⟨_, rfl⟩
  have hin72_131 : ¬ (14 : Int32) < 0 ∧ (14 : Int32).toNatClampNeg < 24 := by decide
  obtain ⟨T132, h132, X132, e132, W132, B132, st132⟩ := own_stB X127 hx hZ e127 B127n (j := (14 : Int32)) (x := v13) hin72_131 (g := (mkF m 72 #[.val (.ref r0), .val (.int (8 : Int32)), .val (.long q2), .second] [(.int v13), (.int (14 : Int32)), (.ref r0)])) rfl rfl (hb hby d3_72)
  obtain ⟨v14, hv14⟩ : ∃ z : Nat → Int32, z = (own_up v12 14 (nar .byte v13)) := ⟨_, rfl⟩
  have B132n : own_AI Z h132 r0 .byte 24 v14 := by rw [hv14]; exact B132
  have Z133 : n0 ≤ h132.size := Nat.le_trans Z128 (Keep.of_wr W132).1
  have K134 : Keep h0 h132 [r0] := K129.wr W132 (Or.inl (List.mem_of_getElem? (i := 0) rfl))
  have N135 := Fr.snoc X132 N130 g_r0
  obtain ⟨v15, hv15⟩ : ∃ z : Int32, z = ((((q2.toUInt64 >>> ((56 : Int32) &&& 0x3f).toInt64.toUInt64).toInt64).toInt32).toInt8.toInt32) := ⟨_, rfl⟩
  have hin84_136 : ¬ (15 : Int32) < 0 ∧ (15 : Int32).toNatClampNeg < 24 := by decide
  obtain ⟨T137, h137, X137, e137, W137, B137, st137⟩ := own_stB X132 hx hZ e132 B132n (j := (15 : Int32)) (x := v15) hin84_136 (g := (mkF m 84 #[.val (.ref r0), .val (.int (8 : Int32)), .val (.long q2), .second] [(.int v15), (.int (15 : Int32)), (.ref r0)])) rfl rfl (hb hby d3_84)
  obtain ⟨v16, hv16⟩ : ∃ z : Nat → Int32, z = (own_up v14 15 (nar .byte v15)) := ⟨_, rfl⟩
  have B137n : own_AI Z h137 r0 .byte 24 v16 := by rw [hv16]; exact B137
  have Z138 : n0 ≤ h137.size := Nat.le_trans Z133 (Keep.of_wr W137).1
  have K139 : Keep h0 h137 [r0] := K134.wr W137 (Or.inl (List.mem_of_getElem? (i := 0) rfl))
  have N140 := Fr.snoc X137 N135 g_r0
  have hgo141 : ∀ t, Steps p.tables e below (T137.setTop (mkF m 85 #[.val (.ref r0), .val (.int (8 : Int32)), .val (.long q2), .second] [])) t → Steps p.tables e below (s₁.setTop (mkF m 0 #[.val (.ref r0), .val (.int p1), .val (.long q2), .second] [])) t := by
    intro t kt
    show Steps p.tables e below (s₁.setTop (mkF m 0 #[.val (.ref r0), .val (.int p1), .val (.long q2), .second] [])) _
    rw [ho]
    show Steps p.tables e below (s₁.setTop (mkF m 0 #[.val (.ref r0), .val (.int (8 : Int32)), .val (.long q2), .second] [])) _
    refine XS.aloadN X0.here hx rfl (hb hby d3_0) rfl rfl ?_
    refine XS.iloadN X0.here hx rfl (hb hby d3_1) rfl ?_
    refine XS.lloadN X0.here hx rfl (hb hby d3_2) rfl ?_
    show Steps p.tables e below (s₁.setTop (mkF m 3 #[.val (.ref r0), .val (.int (8 : Int32)), .val (.long q2), .second] [(.long q2), (.int (8 : Int32)), (.ref r0)])) _
    refine XS.l2i X0.here hx rfl (hb hby d3_3) rfl ?_
    show Steps p.tables e below (s₁.setTop (mkF m 4 #[.val (.ref r0), .val (.int (8 : Int32)), .val (.long q2), .second] [(.int (q2.toInt32)), (.int (8 : Int32)), (.ref r0)])) _
    refine XS.i2b X0.here hx rfl (hb hby d3_4) rfl ?_
    show Steps p.tables e below (s₁.setTop (mkF m 5 #[.val (.ref r0), .val (.int (8 : Int32)), .val (.long q2), .second] [(.int ((q2.toInt32).toInt8.toInt32)), (.int (8 : Int32)), (.ref r0)])) _
    rw [← hv1]
    refine st102 _ ?_
    show Steps p.tables e below (T102.setTop (mkF m 6 #[.val (.ref r0), .val (.int (8 : Int32)), .val (.long q2), .second] [])) _
    refine XS.aloadN X102.here hx rfl (hb hby d3_6) rfl rfl ?_
    refine XS.iloadN X102.here hx rfl (hb hby d3_7) rfl ?_
    refine XS.iconst X102.here hx rfl (hb hby d3_8) ?_
    show Steps p.tables e below (T102.setTop (mkF m 9 #[.val (.ref r0), .val (.int (8 : Int32)), .val (.long q2), .second] [(.int (1 : Int32)), (.int (8 : Int32)), (.ref r0)])) _
    refine XS.iadd X102.here hx rfl (hb hby d3_9) rfl ?_
    show Steps p.tables e below (T102.setTop (mkF m 10 #[.val (.ref r0), .val (.int (8 : Int32)), .val (.long q2), .second] [(.int (9 : Int32)), (.ref r0)])) _
    refine XS.lloadN X102.here hx rfl (hb hby d3_10) rfl ?_
    refine XS.bipush X102.here hx rfl (hb hby d3_11) ?_
    refine XS.lushr X102.here hx rfl (hb hby d3_13) rfl ?_
    show Steps p.tables e below (T102.setTop (mkF m 14 #[.val (.ref r0), .val (.int (8 : Int32)), .val (.long q2), .second] [(.long ((q2.toUInt64 >>> ((8 : Int32) &&& 0x3f).toInt64.toUInt64).toInt64)), (.int (9 : Int32)), (.ref r0)])) _
    refine XS.l2i X102.here hx rfl (hb hby d3_14) rfl ?_
    show Steps p.tables e below (T102.setTop (mkF m 15 #[.val (.ref r0), .val (.int (8 : Int32)), .val (.long q2), .second] [(.int (((q2.toUInt64 >>> ((8 : Int32) &&& 0x3f).toInt64.toUInt64).toInt64).toInt32)), (.int (9 : Int32)), (.ref r0)])) _
    refine XS.i2b X102.here hx rfl (hb hby d3_15) rfl ?_
    show Steps p.tables e below (T102.setTop (mkF m 16 #[.val (.ref r0), .val (.int (8 : Int32)), .val (.long q2), .second] [(.int ((((q2.toUInt64 >>> ((8 : Int32) &&& 0x3f).toInt64.toUInt64).toInt64).toInt32).toInt8.toInt32)), (.int (9 : Int32)), (.ref r0)])) _
    rw [← hv3]
    refine st107 _ ?_
    show Steps p.tables e below (T107.setTop (mkF m 17 #[.val (.ref r0), .val (.int (8 : Int32)), .val (.long q2), .second] [])) _
    refine XS.aloadN X107.here hx rfl (hb hby d3_17) rfl rfl ?_
    refine XS.iloadN X107.here hx rfl (hb hby d3_18) rfl ?_
    refine XS.iconst X107.here hx rfl (hb hby d3_19) ?_
    show Steps p.tables e below (T107.setTop (mkF m 20 #[.val (.ref r0), .val (.int (8 : Int32)), .val (.long q2), .second] [(.int (2 : Int32)), (.int (8 : Int32)), (.ref r0)])) _
    refine XS.iadd X107.here hx rfl (hb hby d3_20) rfl ?_
    show Steps p.tables e below (T107.setTop (mkF m 21 #[.val (.ref r0), .val (.int (8 : Int32)), .val (.long q2), .second] [(.int (10 : Int32)), (.ref r0)])) _
    refine XS.lloadN X107.here hx rfl (hb hby d3_21) rfl ?_
    refine XS.bipush X107.here hx rfl (hb hby d3_22) ?_
    refine XS.lushr X107.here hx rfl (hb hby d3_24) rfl ?_
    show Steps p.tables e below (T107.setTop (mkF m 25 #[.val (.ref r0), .val (.int (8 : Int32)), .val (.long q2), .second] [(.long ((q2.toUInt64 >>> ((16 : Int32) &&& 0x3f).toInt64.toUInt64).toInt64)), (.int (10 : Int32)), (.ref r0)])) _
    refine XS.l2i X107.here hx rfl (hb hby d3_25) rfl ?_
    show Steps p.tables e below (T107.setTop (mkF m 26 #[.val (.ref r0), .val (.int (8 : Int32)), .val (.long q2), .second] [(.int (((q2.toUInt64 >>> ((16 : Int32) &&& 0x3f).toInt64.toUInt64).toInt64).toInt32)), (.int (10 : Int32)), (.ref r0)])) _
    refine XS.i2b X107.here hx rfl (hb hby d3_26) rfl ?_
    show Steps p.tables e below (T107.setTop (mkF m 27 #[.val (.ref r0), .val (.int (8 : Int32)), .val (.long q2), .second] [(.int ((((q2.toUInt64 >>> ((16 : Int32) &&& 0x3f).toInt64.toUInt64).toInt64).toInt32).toInt8.toInt32)), (.int (10 : Int32)), (.ref r0)])) _
    rw [← hv5]
    refine st112 _ ?_
    show Steps p.tables e below (T112.setTop (mkF m 28 #[.val (.ref r0), .val (.int (8 : Int32)), .val (.long q2), .second] [])) _
    refine XS.aloadN X112.here hx rfl (hb hby d3_28) rfl rfl ?_
    refine XS.iloadN X112.here hx rfl (hb hby d3_29) rfl ?_
    refine XS.iconst X112.here hx rfl (hb hby d3_30) ?_
    show Steps p.tables e below (T112.setTop (mkF m 31 #[.val (.ref r0), .val (.int (8 : Int32)), .val (.long q2), .second] [(.int (3 : Int32)), (.int (8 : Int32)), (.ref r0)])) _
    refine XS.iadd X112.here hx rfl (hb hby d3_31) rfl ?_
    show Steps p.tables e below (T112.setTop (mkF m 32 #[.val (.ref r0), .val (.int (8 : Int32)), .val (.long q2), .second] [(.int (11 : Int32)), (.ref r0)])) _
    refine XS.lloadN X112.here hx rfl (hb hby d3_32) rfl ?_
    refine XS.bipush X112.here hx rfl (hb hby d3_33) ?_
    refine XS.lushr X112.here hx rfl (hb hby d3_35) rfl ?_
    show Steps p.tables e below (T112.setTop (mkF m 36 #[.val (.ref r0), .val (.int (8 : Int32)), .val (.long q2), .second] [(.long ((q2.toUInt64 >>> ((24 : Int32) &&& 0x3f).toInt64.toUInt64).toInt64)), (.int (11 : Int32)), (.ref r0)])) _
    refine XS.l2i X112.here hx rfl (hb hby d3_36) rfl ?_
    show Steps p.tables e below (T112.setTop (mkF m 37 #[.val (.ref r0), .val (.int (8 : Int32)), .val (.long q2), .second] [(.int (((q2.toUInt64 >>> ((24 : Int32) &&& 0x3f).toInt64.toUInt64).toInt64).toInt32)), (.int (11 : Int32)), (.ref r0)])) _
    refine XS.i2b X112.here hx rfl (hb hby d3_37) rfl ?_
    show Steps p.tables e below (T112.setTop (mkF m 38 #[.val (.ref r0), .val (.int (8 : Int32)), .val (.long q2), .second] [(.int ((((q2.toUInt64 >>> ((24 : Int32) &&& 0x3f).toInt64.toUInt64).toInt64).toInt32).toInt8.toInt32)), (.int (11 : Int32)), (.ref r0)])) _
    rw [← hv7]
    refine st117 _ ?_
    show Steps p.tables e below (T117.setTop (mkF m 39 #[.val (.ref r0), .val (.int (8 : Int32)), .val (.long q2), .second] [])) _
    refine XS.aloadN X117.here hx rfl (hb hby d3_39) rfl rfl ?_
    refine XS.iloadN X117.here hx rfl (hb hby d3_40) rfl ?_
    refine XS.iconst X117.here hx rfl (hb hby d3_41) ?_
    show Steps p.tables e below (T117.setTop (mkF m 42 #[.val (.ref r0), .val (.int (8 : Int32)), .val (.long q2), .second] [(.int (4 : Int32)), (.int (8 : Int32)), (.ref r0)])) _
    refine XS.iadd X117.here hx rfl (hb hby d3_42) rfl ?_
    show Steps p.tables e below (T117.setTop (mkF m 43 #[.val (.ref r0), .val (.int (8 : Int32)), .val (.long q2), .second] [(.int (12 : Int32)), (.ref r0)])) _
    refine XS.lloadN X117.here hx rfl (hb hby d3_43) rfl ?_
    refine XS.bipush X117.here hx rfl (hb hby d3_44) ?_
    refine XS.lushr X117.here hx rfl (hb hby d3_46) rfl ?_
    show Steps p.tables e below (T117.setTop (mkF m 47 #[.val (.ref r0), .val (.int (8 : Int32)), .val (.long q2), .second] [(.long ((q2.toUInt64 >>> ((32 : Int32) &&& 0x3f).toInt64.toUInt64).toInt64)), (.int (12 : Int32)), (.ref r0)])) _
    refine XS.l2i X117.here hx rfl (hb hby d3_47) rfl ?_
    show Steps p.tables e below (T117.setTop (mkF m 48 #[.val (.ref r0), .val (.int (8 : Int32)), .val (.long q2), .second] [(.int (((q2.toUInt64 >>> ((32 : Int32) &&& 0x3f).toInt64.toUInt64).toInt64).toInt32)), (.int (12 : Int32)), (.ref r0)])) _
    refine XS.i2b X117.here hx rfl (hb hby d3_48) rfl ?_
    show Steps p.tables e below (T117.setTop (mkF m 49 #[.val (.ref r0), .val (.int (8 : Int32)), .val (.long q2), .second] [(.int ((((q2.toUInt64 >>> ((32 : Int32) &&& 0x3f).toInt64.toUInt64).toInt64).toInt32).toInt8.toInt32)), (.int (12 : Int32)), (.ref r0)])) _
    rw [← hv9]
    refine st122 _ ?_
    show Steps p.tables e below (T122.setTop (mkF m 50 #[.val (.ref r0), .val (.int (8 : Int32)), .val (.long q2), .second] [])) _
    refine XS.aloadN X122.here hx rfl (hb hby d3_50) rfl rfl ?_
    refine XS.iloadN X122.here hx rfl (hb hby d3_51) rfl ?_
    refine XS.iconst X122.here hx rfl (hb hby d3_52) ?_
    show Steps p.tables e below (T122.setTop (mkF m 53 #[.val (.ref r0), .val (.int (8 : Int32)), .val (.long q2), .second] [(.int (5 : Int32)), (.int (8 : Int32)), (.ref r0)])) _
    refine XS.iadd X122.here hx rfl (hb hby d3_53) rfl ?_
    show Steps p.tables e below (T122.setTop (mkF m 54 #[.val (.ref r0), .val (.int (8 : Int32)), .val (.long q2), .second] [(.int (13 : Int32)), (.ref r0)])) _
    refine XS.lloadN X122.here hx rfl (hb hby d3_54) rfl ?_
    refine XS.bipush X122.here hx rfl (hb hby d3_55) ?_
    refine XS.lushr X122.here hx rfl (hb hby d3_57) rfl ?_
    show Steps p.tables e below (T122.setTop (mkF m 58 #[.val (.ref r0), .val (.int (8 : Int32)), .val (.long q2), .second] [(.long ((q2.toUInt64 >>> ((40 : Int32) &&& 0x3f).toInt64.toUInt64).toInt64)), (.int (13 : Int32)), (.ref r0)])) _
    refine XS.l2i X122.here hx rfl (hb hby d3_58) rfl ?_
    show Steps p.tables e below (T122.setTop (mkF m 59 #[.val (.ref r0), .val (.int (8 : Int32)), .val (.long q2), .second] [(.int (((q2.toUInt64 >>> ((40 : Int32) &&& 0x3f).toInt64.toUInt64).toInt64).toInt32)), (.int (13 : Int32)), (.ref r0)])) _
    refine XS.i2b X122.here hx rfl (hb hby d3_59) rfl ?_
    show Steps p.tables e below (T122.setTop (mkF m 60 #[.val (.ref r0), .val (.int (8 : Int32)), .val (.long q2), .second] [(.int ((((q2.toUInt64 >>> ((40 : Int32) &&& 0x3f).toInt64.toUInt64).toInt64).toInt32).toInt8.toInt32)), (.int (13 : Int32)), (.ref r0)])) _
    rw [← hv11]
    refine st127 _ ?_
    show Steps p.tables e below (T127.setTop (mkF m 61 #[.val (.ref r0), .val (.int (8 : Int32)), .val (.long q2), .second] [])) _
    refine XS.aloadN X127.here hx rfl (hb hby d3_61) rfl rfl ?_
    refine XS.iloadN X127.here hx rfl (hb hby d3_62) rfl ?_
    refine XS.bipush X127.here hx rfl (hb hby d3_63) ?_
    show Steps p.tables e below (T127.setTop (mkF m 65 #[.val (.ref r0), .val (.int (8 : Int32)), .val (.long q2), .second] [(.int (6 : Int32)), (.int (8 : Int32)), (.ref r0)])) _
    refine XS.iadd X127.here hx rfl (hb hby d3_65) rfl ?_
    show Steps p.tables e below (T127.setTop (mkF m 66 #[.val (.ref r0), .val (.int (8 : Int32)), .val (.long q2), .second] [(.int (14 : Int32)), (.ref r0)])) _
    refine XS.lloadN X127.here hx rfl (hb hby d3_66) rfl ?_
    refine XS.bipush X127.here hx rfl (hb hby d3_67) ?_
    refine XS.lushr X127.here hx rfl (hb hby d3_69) rfl ?_
    show Steps p.tables e below (T127.setTop (mkF m 70 #[.val (.ref r0), .val (.int (8 : Int32)), .val (.long q2), .second] [(.long ((q2.toUInt64 >>> ((48 : Int32) &&& 0x3f).toInt64.toUInt64).toInt64)), (.int (14 : Int32)), (.ref r0)])) _
    refine XS.l2i X127.here hx rfl (hb hby d3_70) rfl ?_
    show Steps p.tables e below (T127.setTop (mkF m 71 #[.val (.ref r0), .val (.int (8 : Int32)), .val (.long q2), .second] [(.int (((q2.toUInt64 >>> ((48 : Int32) &&& 0x3f).toInt64.toUInt64).toInt64).toInt32)), (.int (14 : Int32)), (.ref r0)])) _
    refine XS.i2b X127.here hx rfl (hb hby d3_71) rfl ?_
    show Steps p.tables e below (T127.setTop (mkF m 72 #[.val (.ref r0), .val (.int (8 : Int32)), .val (.long q2), .second] [(.int ((((q2.toUInt64 >>> ((48 : Int32) &&& 0x3f).toInt64.toUInt64).toInt64).toInt32).toInt8.toInt32)), (.int (14 : Int32)), (.ref r0)])) _
    rw [← hv13]
    refine st132 _ ?_
    show Steps p.tables e below (T132.setTop (mkF m 73 #[.val (.ref r0), .val (.int (8 : Int32)), .val (.long q2), .second] [])) _
    refine XS.aloadN X132.here hx rfl (hb hby d3_73) rfl rfl ?_
    refine XS.iloadN X132.here hx rfl (hb hby d3_74) rfl ?_
    refine XS.bipush X132.here hx rfl (hb hby d3_75) ?_
    show Steps p.tables e below (T132.setTop (mkF m 77 #[.val (.ref r0), .val (.int (8 : Int32)), .val (.long q2), .second] [(.int (7 : Int32)), (.int (8 : Int32)), (.ref r0)])) _
    refine XS.iadd X132.here hx rfl (hb hby d3_77) rfl ?_
    show Steps p.tables e below (T132.setTop (mkF m 78 #[.val (.ref r0), .val (.int (8 : Int32)), .val (.long q2), .second] [(.int (15 : Int32)), (.ref r0)])) _
    refine XS.lloadN X132.here hx rfl (hb hby d3_78) rfl ?_
    refine XS.bipush X132.here hx rfl (hb hby d3_79) ?_
    refine XS.lushr X132.here hx rfl (hb hby d3_81) rfl ?_
    show Steps p.tables e below (T132.setTop (mkF m 82 #[.val (.ref r0), .val (.int (8 : Int32)), .val (.long q2), .second] [(.long ((q2.toUInt64 >>> ((56 : Int32) &&& 0x3f).toInt64.toUInt64).toInt64)), (.int (15 : Int32)), (.ref r0)])) _
    refine XS.l2i X132.here hx rfl (hb hby d3_82) rfl ?_
    show Steps p.tables e below (T132.setTop (mkF m 83 #[.val (.ref r0), .val (.int (8 : Int32)), .val (.long q2), .second] [(.int (((q2.toUInt64 >>> ((56 : Int32) &&& 0x3f).toInt64.toUInt64).toInt64).toInt32)), (.int (15 : Int32)), (.ref r0)])) _
    refine XS.i2b X132.here hx rfl (hb hby d3_83) rfl ?_
    show Steps p.tables e below (T132.setTop (mkF m 84 #[.val (.ref r0), .val (.int (8 : Int32)), .val (.long q2), .second] [(.int ((((q2.toUInt64 >>> ((56 : Int32) &&& 0x3f).toInt64.toUInt64).toInt64).toInt32).toInt8.toInt32)), (.int (15 : Int32)), (.ref r0)])) _
    rw [← hv15]
    refine st137 _ ?_
    exact kt
  refine own_go hgo141 ?_
  exact own_retV X137 hx Bd.returns Bd.notSynchronized (hb hby d3_85) (by decide) (by decide) (by rw [e137]; exact ⟨(by rfl), N140, K139, (by subst hv16 hv15 hv14 hv13 hv12 hv11 hv10 hv9 hv8 hv7 hv6 hv5 hv4 hv3 hv2 hv1; exact B137n)⟩)
theorem ef_p8_16 (m : MethodId) (r0 : Addr) (p1 : Int32) (q2 : Int64) : entryFrame m #[(.ref r0), (.int p1), (.long q2)] 4 = mkF m 0 #[.val (.ref r0), .val (.int p1), .val (.long q2), .second] [] := by (first | (simp [entryFrame, mkF, argsToLocals, Value.category]; done) | rfl)
def Qp8_16 (Z : State) (r0 : Addr) (p1 : Int32) (q2 : Int64) (f : Nat → Int32) (h0 : Heap) (n0 : Nat) (v : Option Value) (h : Heap) (L : List Loc) : Prop := v = none ∧ Fr n0 L ∧ Keep h0 h [r0] ∧ own_AI Z h r0 .byte 24 (own_up (own_up (own_up (own_up (own_up (own_up (own_up (own_up f 16 (nar .byte ((q2.toInt32).toInt8.toInt32))) 17 (nar .byte ((((q2.toUInt64 >>> ((8 : Int32) &&& 0x3f).toInt64.toUInt64).toInt64).toInt32).toInt8.toInt32))) 18 (nar .byte ((((q2.toUInt64 >>> ((16 : Int32) &&& 0x3f).toInt64.toUInt64).toInt64).toInt32).toInt8.toInt32))) 19 (nar .byte ((((q2.toUInt64 >>> ((24 : Int32) &&& 0x3f).toInt64.toUInt64).toInt64).toInt32).toInt8.toInt32))) 20 (nar .byte ((((q2.toUInt64 >>> ((32 : Int32) &&& 0x3f).toInt64.toUInt64).toInt64).toInt32).toInt8.toInt32))) 21 (nar .byte ((((q2.toUInt64 >>> ((40 : Int32) &&& 0x3f).toInt64.toUInt64).toInt64).toInt32).toInt8.toInt32))) 22 (nar .byte ((((q2.toUInt64 >>> ((48 : Int32) &&& 0x3f).toInt64.toUInt64).toInt64).toInt32).toInt8.toInt32))) 23 (nar .byte ((((q2.toUInt64 >>> ((56 : Int32) &&& 0x3f).toInt64.toUInt64).toInt64).toInt32).toInt8.toInt32)))
set_option maxRecDepth 65536 in
set_option maxHeartbeats 40000000 in
theorem rmp8_16 (l : Launch) (Z : State) (a0 : Array Value) (hw : ∀ d ∈ tables_1, d.before a0 Z = true) (ws : List Jvm.Cond) (r0 : Addr) (p1 : Int32) (q2 : Int64) (f : Nat → Int32) (h0 : Heap) (n0 : Nat) (Z0 : n0 ≤ h0.size) (A_r0 : own_AI Z h0 r0 .byte 24 f) (ho : p1 = (16 : Int32)) (g_r0 : n0 ≤ r0) :
    MetFree l (⟨"com/example/canonic/canonic/RiceCodeDecodePinLaw", "put8", "([BIJ)V"⟩ : MethodName) (head1 (Jvm.Cond.code (⟨"com/example/canonic/canonic/RiceCodeDecodePinLaw", "put8", "([BIJ)V"⟩ : MethodName) method_4_code 4 none :: ws) ({ frames := 0, cells := 0, slots := 0, locals := 0 } : Room)) (fun a U => a = #[(.ref r0), (.int p1), (.long q2)] ∧ Z.Warmed39 U.vm ∧ U.heap = h0) (fun _ _ _ _ _ => True) (fun _ U o U' => ∃ v L, o = .returned v ∧ Qp8_16 Z r0 p1 q2 f h0 n0 v U'.heap L ∧ FrameEnd U o U' L ({ frames := 0, cells := 0, slots := 0, locals := 0 } : Room).cells ({ frames := 0, cells := 0, slots := 0, locals := 0 } : Room).slots) := by
  refine MetFree.of_bodySF (plainFor_of_name pn3) hisR ?_
  intro p e s m args below meth c s₁ Bd hml0 hP hK
  obtain ⟨rfl, hZ, hh⟩ := hP
  have hx := Bd.exec
  have hby := Bd.bytes
  have hml : c.maxLocals = 4 := hml0
  have hown : s.vm.findClass "com/example/canonic/canonic/RiceCodeDecodePinLaw" = some m.cls := findClass_of_methodNamed Bd.named
  have hnm := (name_of_methodNamed Bd.named Bd.method).1
  have X0 : Stand p l e ({ frames := 0, cells := 0, slots := 0, locals := 0 } : Room) s m #[(.ref r0), (.int p1), (.long q2)] below meth c s₁ [] 0 0 := Stand.of_body Bd
  have e0 : s₁.heap = h0 := by rw [← hh, Bd.state]; rfl
  have N0 := Fr.nil n0
  have K0 : Keep h0 h0 [r0] := Keep.refl h0 _
  show own_Go p e below s (Qp8_16 Z r0 p1 q2 f h0 n0) ({ frames := 0, cells := 0, slots := 0, locals := 0 } : Room).cells ({ frames := 0, cells := 0, slots := 0, locals := 0 } : Room).slots (s₁.setTop (entryFrame m #[(.ref r0), (.int p1), (.long q2)] 4))
  refine own_go (fun t k => castTop (ef_p8_16 m r0 p1 q2) k) ?_
  obtain ⟨v1, hv1⟩ : ∃ z : Int32, z = ((q2.toInt32).toInt8.toInt32) := ⟨_, rfl⟩
  have hin5_101 : ¬ (16 : Int32) < 0 ∧ (16 : Int32).toNatClampNeg < 24 := by decide
  obtain ⟨T102, h102, X102, e102, W102, B102, st102⟩ := own_stB X0 hx hZ e0 A_r0 (j := (16 : Int32)) (x := v1) hin5_101 (g := (mkF m 5 #[.val (.ref r0), .val (.int (16 : Int32)), .val (.long q2), .second] [(.int v1), (.int (16 : Int32)), (.ref r0)])) rfl rfl (hb hby d3_5)
  obtain ⟨v2, hv2⟩ : ∃ z : Nat → Int32, z = (own_up f 16 (nar .byte v1)) := ⟨_, rfl⟩
  have B102n : own_AI Z h102 r0 .byte 24 v2 := by rw [hv2]; exact B102
  have Z103 : n0 ≤ h102.size := Nat.le_trans Z0 (Keep.of_wr W102).1
  have K104 : Keep h0 h102 [r0] := K0.wr W102 (Or.inl (List.mem_of_getElem? (i := 0) rfl))
  have N105 := Fr.snoc X102 N0 g_r0
  obtain ⟨v3, hv3⟩ : ∃ z : Int32, z = ((((q2.toUInt64 >>> ((8 : Int32) &&& 0x3f).toInt64.toUInt64).toInt64).toInt32).toInt8.toInt32) := ⟨_, rfl⟩
  have hin16_106 : ¬ (17 : Int32) < 0 ∧ (17 : Int32).toNatClampNeg < 24 := by decide
  obtain ⟨T107, h107, X107, e107, W107, B107, st107⟩ := own_stB X102 hx hZ e102 B102n (j := (17 : Int32)) (x := v3) hin16_106 (g := (mkF m 16 #[.val (.ref r0), .val (.int (16 : Int32)), .val (.long q2), .second] [(.int v3), (.int (17 : Int32)), (.ref r0)])) rfl rfl (hb hby d3_16)
  obtain ⟨v4, hv4⟩ : ∃ z : Nat → Int32, z = (own_up v2 17 (nar .byte v3)) := ⟨_, rfl⟩
  have B107n : own_AI Z h107 r0 .byte 24 v4 := by rw [hv4]; exact B107
  have Z108 : n0 ≤ h107.size := Nat.le_trans Z103 (Keep.of_wr W107).1
  have K109 : Keep h0 h107 [r0] := K104.wr W107 (Or.inl (List.mem_of_getElem? (i := 0) rfl))
  have N110 := Fr.snoc X107 N105 g_r0
  obtain ⟨v5, hv5⟩ : ∃ z : Int32, z = ((((q2.toUInt64 >>> ((16 : Int32) &&& 0x3f).toInt64.toUInt64).toInt64).toInt32).toInt8.toInt32) := ⟨_, rfl⟩
  have hin27_111 : ¬ (18 : Int32) < 0 ∧ (18 : Int32).toNatClampNeg < 24 := by decide
  obtain ⟨T112, h112, X112, e112, W112, B112, st112⟩ := own_stB X107 hx hZ e107 B107n (j := (18 : Int32)) (x := v5) hin27_111 (g := (mkF m 27 #[.val (.ref r0), .val (.int (16 : Int32)), .val (.long q2), .second] [(.int v5), (.int (18 : Int32)), (.ref r0)])) rfl rfl (hb hby d3_27)
  obtain ⟨v6, hv6⟩ : ∃ z : Nat → Int32, z = (own_up v4 18 (nar .byte v5)) := ⟨_, rfl⟩
  have B112n : own_AI Z h112 r0 .byte 24 v6 := by rw [hv6]; exact B112
  have Z113 : n0 ≤ h112.size := Nat.le_trans Z108 (Keep.of_wr W112).1
  have K114 : Keep h0 h112 [r0] := K109.wr W112 (Or.inl (List.mem_of_getElem? (i := 0) rfl))
  have N115 := Fr.snoc X112 N110 g_r0
  obtain ⟨v7, hv7⟩ : ∃ z : Int32, z = ((((q2.toUInt64 >>> ((24 : Int32) &&& 0x3f).toInt64.toUInt64).toInt64).toInt32).toInt8.toInt32) := ⟨_, rfl⟩
  have hin38_116 : ¬ (19 : Int32) < 0 ∧ (19 : Int32).toNatClampNeg < 24 := by decide
  obtain ⟨T117, h117, X117, e117, W117, B117, st117⟩ := own_stB X112 hx hZ e112 B112n (j := (19 : Int32)) (x := v7) hin38_116 (g := (mkF m 38 #[.val (.ref r0), .val (.int (16 : Int32)), .val (.long q2), .second] [(.int v7), (.int (19 : Int32)), (.ref r0)])) rfl rfl (hb hby d3_38)
  obtain ⟨v8, hv8⟩ : ∃ z : Nat → Int32, z = (own_up v6 19 (nar .byte v7)) := ⟨_, rfl⟩
  have B117n : own_AI Z h117 r0 .byte 24 v8 := by rw [hv8]; exact B117
  have Z118 : n0 ≤ h117.size := Nat.le_trans Z113 (Keep.of_wr W117).1
  have K119 : Keep h0 h117 [r0] := K114.wr W117 (Or.inl (List.mem_of_getElem? (i := 0) rfl))
  have N120 := Fr.snoc X117 N115 g_r0
  obtain ⟨v9, hv9⟩ : ∃ z : Int32, z = ((((q2.toUInt64 >>> ((32 : Int32) &&& 0x3f).toInt64.toUInt64).toInt64).toInt32).toInt8.toInt32) := ⟨_, rfl⟩
  have hin49_121 : ¬ (20 : Int32) < 0 ∧ (20 : Int32).toNatClampNeg < 24 := by decide
  obtain ⟨T122, h122, X122, e122, W122, B122, st122⟩ := own_stB X117 hx hZ e117 B117n (j := (20 : Int32)) (x := v9) hin49_121 (g := (mkF m 49 #[.val (.ref r0), .val (.int (16 : Int32)), .val (.long q2), .second] [(.int v9), (.int (20 : Int32)), (.ref r0)])) rfl rfl (hb hby d3_49)
  obtain ⟨v10, hv10⟩ : ∃ z : Nat → Int32, z = (own_up v8 20 (nar .byte v9)) := ⟨_, rfl⟩
  have B122n : own_AI Z h122 r0 .byte 24 v10 := by rw [hv10]; exact B122
  have Z123 : n0 ≤ h122.size := Nat.le_trans Z118 (Keep.of_wr W122).1
  have K124 : Keep h0 h122 [r0] := K119.wr W122 (Or.inl (List.mem_of_getElem? (i := 0) rfl))
  have N125 := Fr.snoc X122 N120 g_r0
  obtain ⟨v11, hv11⟩ : ∃ z : Int32, z = ((((q2.toUInt64 >>> ((40 : Int32) &&& 0x3f).toInt64.toUInt64).toInt64).toInt32).toInt8.toInt32) := ⟨_, rfl⟩
  have hin60_126 : ¬ (21 : Int32) < 0 ∧ (21 : Int32).toNatClampNeg < 24 := by decide
  obtain ⟨T127, h127, X127, e127, W127, B127, st127⟩ := own_stB X122 hx hZ e122 B122n (j := (21 : Int32)) (x := v11) hin60_126 (g := (mkF m 60 #[.val (.ref r0), .val (.int (16 : Int32)), .val (.long q2), .second] [(.int v11), (.int (21 : Int32)), (.ref r0)])) rfl rfl (hb hby d3_60)
  obtain ⟨v12, hv12⟩ : ∃ z : Nat → Int32, z = (own_up v10 21 (nar .byte v11)) := ⟨_, rfl⟩
  have B127n : own_AI Z h127 r0 .byte 24 v12 := by rw [hv12]; exact B127
  have Z128 : n0 ≤ h127.size := Nat.le_trans Z123 (Keep.of_wr W127).1
  have K129 : Keep h0 h127 [r0] := K124.wr W127 (Or.inl (List.mem_of_getElem? (i := 0) rfl))
  have N130 := Fr.snoc X127 N125 g_r0
  obtain ⟨v13, hv13⟩ : ∃ z : Int32, z = ((((q2.toUInt64 >>> ((48 : Int32) &&& 0x3f).toInt64.toUInt64).toInt64).toInt32).toInt8.toInt32) := ⟨_, rfl⟩
  have hin72_131 : ¬ (22 : Int32) < 0 ∧ (22 : Int32).toNatClampNeg < 24 := by decide
  obtain ⟨T132, h132, X132, e132, W132, B132, st132⟩ := own_stB X127 hx hZ e127 B127n (j := (22 : Int32)) (x := v13) hin72_131 (g := (mkF m 72 #[.val (.ref r0), .val (.int (16 : Int32)), .val (.long q2), .second] [(.int v13), (.int (22 : Int32)), (.ref r0)])) rfl rfl (hb hby d3_72)
  obtain ⟨v14, hv14⟩ : ∃ z : Nat → Int32, z = (own_up v12 22 (nar .byte v13)) := ⟨_, rfl⟩
  have B132n : own_AI Z h132 r0 .byte 24 v14 := by rw [hv14]; exact B132
  have Z133 : n0 ≤ h132.size := Nat.le_trans Z128 (Keep.of_wr W132).1
  have K134 : Keep h0 h132 [r0] := K129.wr W132 (Or.inl (List.mem_of_getElem? (i := 0) rfl))
  have N135 := Fr.snoc X132 N130 g_r0
  obtain ⟨v15, hv15⟩ : ∃ z : Int32, z = ((((q2.toUInt64 >>> ((56 : Int32) &&& 0x3f).toInt64.toUInt64).toInt64).toInt32).toInt8.toInt32) := ⟨_, rfl⟩
  have hin84_136 : ¬ (23 : Int32) < 0 ∧ (23 : Int32).toNatClampNeg < 24 := by decide
  obtain ⟨T137, h137, X137, e137, W137, B137, st137⟩ := own_stB X132 hx hZ e132 B132n (j := (23 : Int32)) (x := v15) hin84_136 (g := (mkF m 84 #[.val (.ref r0), .val (.int (16 : Int32)), .val (.long q2), .second] [(.int v15), (.int (23 : Int32)), (.ref r0)])) rfl rfl (hb hby d3_84)
  obtain ⟨v16, hv16⟩ : ∃ z : Nat → Int32, z = (own_up v14 23 (nar .byte v15)) := ⟨_, rfl⟩
  have B137n : own_AI Z h137 r0 .byte 24 v16 := by rw [hv16]; exact B137
  have Z138 : n0 ≤ h137.size := Nat.le_trans Z133 (Keep.of_wr W137).1
  have K139 : Keep h0 h137 [r0] := K134.wr W137 (Or.inl (List.mem_of_getElem? (i := 0) rfl))
  have N140 := Fr.snoc X137 N135 g_r0
  have hgo141 : ∀ t, Steps p.tables e below (T137.setTop (mkF m 85 #[.val (.ref r0), .val (.int (16 : Int32)), .val (.long q2), .second] [])) t → Steps p.tables e below (s₁.setTop (mkF m 0 #[.val (.ref r0), .val (.int p1), .val (.long q2), .second] [])) t := by
    intro t kt
    show Steps p.tables e below (s₁.setTop (mkF m 0 #[.val (.ref r0), .val (.int p1), .val (.long q2), .second] [])) _
    rw [ho]
    show Steps p.tables e below (s₁.setTop (mkF m 0 #[.val (.ref r0), .val (.int (16 : Int32)), .val (.long q2), .second] [])) _
    refine XS.aloadN X0.here hx rfl (hb hby d3_0) rfl rfl ?_
    refine XS.iloadN X0.here hx rfl (hb hby d3_1) rfl ?_
    refine XS.lloadN X0.here hx rfl (hb hby d3_2) rfl ?_
    show Steps p.tables e below (s₁.setTop (mkF m 3 #[.val (.ref r0), .val (.int (16 : Int32)), .val (.long q2), .second] [(.long q2), (.int (16 : Int32)), (.ref r0)])) _
    refine XS.l2i X0.here hx rfl (hb hby d3_3) rfl ?_
    show Steps p.tables e below (s₁.setTop (mkF m 4 #[.val (.ref r0), .val (.int (16 : Int32)), .val (.long q2), .second] [(.int (q2.toInt32)), (.int (16 : Int32)), (.ref r0)])) _
    refine XS.i2b X0.here hx rfl (hb hby d3_4) rfl ?_
    show Steps p.tables e below (s₁.setTop (mkF m 5 #[.val (.ref r0), .val (.int (16 : Int32)), .val (.long q2), .second] [(.int ((q2.toInt32).toInt8.toInt32)), (.int (16 : Int32)), (.ref r0)])) _
    rw [← hv1]
    refine st102 _ ?_
    show Steps p.tables e below (T102.setTop (mkF m 6 #[.val (.ref r0), .val (.int (16 : Int32)), .val (.long q2), .second] [])) _
    refine XS.aloadN X102.here hx rfl (hb hby d3_6) rfl rfl ?_
    refine XS.iloadN X102.here hx rfl (hb hby d3_7) rfl ?_
    refine XS.iconst X102.here hx rfl (hb hby d3_8) ?_
    show Steps p.tables e below (T102.setTop (mkF m 9 #[.val (.ref r0), .val (.int (16 : Int32)), .val (.long q2), .second] [(.int (1 : Int32)), (.int (16 : Int32)), (.ref r0)])) _
    refine XS.iadd X102.here hx rfl (hb hby d3_9) rfl ?_
    show Steps p.tables e below (T102.setTop (mkF m 10 #[.val (.ref r0), .val (.int (16 : Int32)), .val (.long q2), .second] [(.int (17 : Int32)), (.ref r0)])) _
    refine XS.lloadN X102.here hx rfl (hb hby d3_10) rfl ?_
    refine XS.bipush X102.here hx rfl (hb hby d3_11) ?_
    refine XS.lushr X102.here hx rfl (hb hby d3_13) rfl ?_
    show Steps p.tables e below (T102.setTop (mkF m 14 #[.val (.ref r0), .val (.int (16 : Int32)), .val (.long q2), .second] [(.long ((q2.toUInt64 >>> ((8 : Int32) &&& 0x3f).toInt64.toUInt64).toInt64)), (.int (17 : Int32)), (.ref r0)])) _
    refine XS.l2i X102.here hx rfl (hb hby d3_14) rfl ?_
    show Steps p.tables e below (T102.setTop (mkF m 15 #[.val (.ref r0), .val (.int (16 : Int32)), .val (.long q2), .second] [(.int (((q2.toUInt64 >>> ((8 : Int32) &&& 0x3f).toInt64.toUInt64).toInt64).toInt32)), (.int (17 : Int32)), (.ref r0)])) _
    refine XS.i2b X102.here hx rfl (hb hby d3_15) rfl ?_
    show Steps p.tables e below (T102.setTop (mkF m 16 #[.val (.ref r0), .val (.int (16 : Int32)), .val (.long q2), .second] [(.int ((((q2.toUInt64 >>> ((8 : Int32) &&& 0x3f).toInt64.toUInt64).toInt64).toInt32).toInt8.toInt32)), (.int (17 : Int32)), (.ref r0)])) _
    rw [← hv3]
    refine st107 _ ?_
    show Steps p.tables e below (T107.setTop (mkF m 17 #[.val (.ref r0), .val (.int (16 : Int32)), .val (.long q2), .second] [])) _
    refine XS.aloadN X107.here hx rfl (hb hby d3_17) rfl rfl ?_
    refine XS.iloadN X107.here hx rfl (hb hby d3_18) rfl ?_
    refine XS.iconst X107.here hx rfl (hb hby d3_19) ?_
    show Steps p.tables e below (T107.setTop (mkF m 20 #[.val (.ref r0), .val (.int (16 : Int32)), .val (.long q2), .second] [(.int (2 : Int32)), (.int (16 : Int32)), (.ref r0)])) _
    refine XS.iadd X107.here hx rfl (hb hby d3_20) rfl ?_
    show Steps p.tables e below (T107.setTop (mkF m 21 #[.val (.ref r0), .val (.int (16 : Int32)), .val (.long q2), .second] [(.int (18 : Int32)), (.ref r0)])) _
    refine XS.lloadN X107.here hx rfl (hb hby d3_21) rfl ?_
    refine XS.bipush X107.here hx rfl (hb hby d3_22) ?_
    refine XS.lushr X107.here hx rfl (hb hby d3_24) rfl ?_
    show Steps p.tables e below (T107.setTop (mkF m 25 #[.val (.ref r0), .val (.int (16 : Int32)), .val (.long q2), .second] [(.long ((q2.toUInt64 >>> ((16 : Int32) &&& 0x3f).toInt64.toUInt64).toInt64)), (.int (18 : Int32)), (.ref r0)])) _
    refine XS.l2i X107.here hx rfl (hb hby d3_25) rfl ?_
    show Steps p.tables e below (T107.setTop (mkF m 26 #[.val (.ref r0), .val (.int (16 : Int32)), .val (.long q2), .second] [(.int (((q2.toUInt64 >>> ((16 : Int32) &&& 0x3f).toInt64.toUInt64).toInt64).toInt32)), (.int (18 : Int32)), (.ref r0)])) _
    refine XS.i2b X107.here hx rfl (hb hby d3_26) rfl ?_
    show Steps p.tables e below (T107.setTop (mkF m 27 #[.val (.ref r0), .val (.int (16 : Int32)), .val (.long q2), .second] [(.int ((((q2.toUInt64 >>> ((16 : Int32) &&& 0x3f).toInt64.toUInt64).toInt64).toInt32).toInt8.toInt32)), (.int (18 : Int32)), (.ref r0)])) _
    rw [← hv5]
    refine st112 _ ?_
    show Steps p.tables e below (T112.setTop (mkF m 28 #[.val (.ref r0), .val (.int (16 : Int32)), .val (.long q2), .second] [])) _
    refine XS.aloadN X112.here hx rfl (hb hby d3_28) rfl rfl ?_
    refine XS.iloadN X112.here hx rfl (hb hby d3_29) rfl ?_
    refine XS.iconst X112.here hx rfl (hb hby d3_30) ?_
    show Steps p.tables e below (T112.setTop (mkF m 31 #[.val (.ref r0), .val (.int (16 : Int32)), .val (.long q2), .second] [(.int (3 : Int32)), (.int (16 : Int32)), (.ref r0)])) _
    refine XS.iadd X112.here hx rfl (hb hby d3_31) rfl ?_
    show Steps p.tables e below (T112.setTop (mkF m 32 #[.val (.ref r0), .val (.int (16 : Int32)), .val (.long q2), .second] [(.int (19 : Int32)), (.ref r0)])) _
    refine XS.lloadN X112.here hx rfl (hb hby d3_32) rfl ?_
    refine XS.bipush X112.here hx rfl (hb hby d3_33) ?_
    refine XS.lushr X112.here hx rfl (hb hby d3_35) rfl ?_
    show Steps p.tables e below (T112.setTop (mkF m 36 #[.val (.ref r0), .val (.int (16 : Int32)), .val (.long q2), .second] [(.long ((q2.toUInt64 >>> ((24 : Int32) &&& 0x3f).toInt64.toUInt64).toInt64)), (.int (19 : Int32)), (.ref r0)])) _
    refine XS.l2i X112.here hx rfl (hb hby d3_36) rfl ?_
    show Steps p.tables e below (T112.setTop (mkF m 37 #[.val (.ref r0), .val (.int (16 : Int32)), .val (.long q2), .second] [(.int (((q2.toUInt64 >>> ((24 : Int32) &&& 0x3f).toInt64.toUInt64).toInt64).toInt32)), (.int (19 : Int32)), (.ref r0)])) _
    refine XS.i2b X112.here hx rfl (hb hby d3_37) rfl ?_
    show Steps p.tables e below (T112.setTop (mkF m 38 #[.val (.ref r0), .val (.int (16 : Int32)), .val (.long q2), .second] [(.int ((((q2.toUInt64 >>> ((24 : Int32) &&& 0x3f).toInt64.toUInt64).toInt64).toInt32).toInt8.toInt32)), (.int (19 : Int32)), (.ref r0)])) _
    rw [← hv7]
    refine st117 _ ?_
    show Steps p.tables e below (T117.setTop (mkF m 39 #[.val (.ref r0), .val (.int (16 : Int32)), .val (.long q2), .second] [])) _
    refine XS.aloadN X117.here hx rfl (hb hby d3_39) rfl rfl ?_
    refine XS.iloadN X117.here hx rfl (hb hby d3_40) rfl ?_
    refine XS.iconst X117.here hx rfl (hb hby d3_41) ?_
    show Steps p.tables e below (T117.setTop (mkF m 42 #[.val (.ref r0), .val (.int (16 : Int32)), .val (.long q2), .second] [(.int (4 : Int32)), (.int (16 : Int32)), (.ref r0)])) _
    refine XS.iadd X117.here hx rfl (hb hby d3_42) rfl ?_
    show Steps p.tables e below (T117.setTop (mkF m 43 #[.val (.ref r0), .val (.int (16 : Int32)), .val (.long q2), .second] [(.int (20 : Int32)), (.ref r0)])) _
    refine XS.lloadN X117.here hx rfl (hb hby d3_43) rfl ?_
    refine XS.bipush X117.here hx rfl (hb hby d3_44) ?_
    refine XS.lushr X117.here hx rfl (hb hby d3_46) rfl ?_
    show Steps p.tables e below (T117.setTop (mkF m 47 #[.val (.ref r0), .val (.int (16 : Int32)), .val (.long q2), .second] [(.long ((q2.toUInt64 >>> ((32 : Int32) &&& 0x3f).toInt64.toUInt64).toInt64)), (.int (20 : Int32)), (.ref r0)])) _
    refine XS.l2i X117.here hx rfl (hb hby d3_47) rfl ?_
    show Steps p.tables e below (T117.setTop (mkF m 48 #[.val (.ref r0), .val (.int (16 : Int32)), .val (.long q2), .second] [(.int (((q2.toUInt64 >>> ((32 : Int32) &&& 0x3f).toInt64.toUInt64).toInt64).toInt32)), (.int (20 : Int32)), (.ref r0)])) _
    refine XS.i2b X117.here hx rfl (hb hby d3_48) rfl ?_
    show Steps p.tables e below (T117.setTop (mkF m 49 #[.val (.ref r0), .val (.int (16 : Int32)), .val (.long q2), .second] [(.int ((((q2.toUInt64 >>> ((32 : Int32) &&& 0x3f).toInt64.toUInt64).toInt64).toInt32).toInt8.toInt32)), (.int (20 : Int32)), (.ref r0)])) _
    rw [← hv9]
    refine st122 _ ?_
    show Steps p.tables e below (T122.setTop (mkF m 50 #[.val (.ref r0), .val (.int (16 : Int32)), .val (.long q2), .second] [])) _
    refine XS.aloadN X122.here hx rfl (hb hby d3_50) rfl rfl ?_
    refine XS.iloadN X122.here hx rfl (hb hby d3_51) rfl ?_
    refine XS.iconst X122.here hx rfl (hb hby d3_52) ?_
    show Steps p.tables e below (T122.setTop (mkF m 53 #[.val (.ref r0), .val (.int (16 : Int32)), .val (.long q2), .second] [(.int (5 : Int32)), (.int (16 : Int32)), (.ref r0)])) _
    refine XS.iadd X122.here hx rfl (hb hby d3_53) rfl ?_
    show Steps p.tables e below (T122.setTop (mkF m 54 #[.val (.ref r0), .val (.int (16 : Int32)), .val (.long q2), .second] [(.int (21 : Int32)), (.ref r0)])) _
    refine XS.lloadN X122.here hx rfl (hb hby d3_54) rfl ?_
    refine XS.bipush X122.here hx rfl (hb hby d3_55) ?_
    refine XS.lushr X122.here hx rfl (hb hby d3_57) rfl ?_
    show Steps p.tables e below (T122.setTop (mkF m 58 #[.val (.ref r0), .val (.int (16 : Int32)), .val (.long q2), .second] [(.long ((q2.toUInt64 >>> ((40 : Int32) &&& 0x3f).toInt64.toUInt64).toInt64)), (.int (21 : Int32)), (.ref r0)])) _
    refine XS.l2i X122.here hx rfl (hb hby d3_58) rfl ?_
    show Steps p.tables e below (T122.setTop (mkF m 59 #[.val (.ref r0), .val (.int (16 : Int32)), .val (.long q2), .second] [(.int (((q2.toUInt64 >>> ((40 : Int32) &&& 0x3f).toInt64.toUInt64).toInt64).toInt32)), (.int (21 : Int32)), (.ref r0)])) _
    refine XS.i2b X122.here hx rfl (hb hby d3_59) rfl ?_
    show Steps p.tables e below (T122.setTop (mkF m 60 #[.val (.ref r0), .val (.int (16 : Int32)), .val (.long q2), .second] [(.int ((((q2.toUInt64 >>> ((40 : Int32) &&& 0x3f).toInt64.toUInt64).toInt64).toInt32).toInt8.toInt32)), (.int (21 : Int32)), (.ref r0)])) _
    rw [← hv11]
    refine st127 _ ?_
    show Steps p.tables e below (T127.setTop (mkF m 61 #[.val (.ref r0), .val (.int (16 : Int32)), .val (.long q2), .second] [])) _
    refine XS.aloadN X127.here hx rfl (hb hby d3_61) rfl rfl ?_
    refine XS.iloadN X127.here hx rfl (hb hby d3_62) rfl ?_
    refine XS.bipush X127.here hx rfl (hb hby d3_63) ?_
    show Steps p.tables e below (T127.setTop (mkF m 65 #[.val (.ref r0), .val (.int (16 : Int32)), .val (.long q2), .second] [(.int (6 : Int32)), (.int (16 : Int32)), (.ref r0)])) _
    refine XS.iadd X127.here hx rfl (hb hby d3_65) rfl ?_
    show Steps p.tables e below (T127.setTop (mkF m 66 #[.val (.ref r0), .val (.int (16 : Int32)), .val (.long q2), .second] [(.int (22 : Int32)), (.ref r0)])) _
    refine XS.lloadN X127.here hx rfl (hb hby d3_66) rfl ?_
    refine XS.bipush X127.here hx rfl (hb hby d3_67) ?_
    refine XS.lushr X127.here hx rfl (hb hby d3_69) rfl ?_
    show Steps p.tables e below (T127.setTop (mkF m 70 #[.val (.ref r0), .val (.int (16 : Int32)), .val (.long q2), .second] [(.long ((q2.toUInt64 >>> ((48 : Int32) &&& 0x3f).toInt64.toUInt64).toInt64)), (.int (22 : Int32)), (.ref r0)])) _
    refine XS.l2i X127.here hx rfl (hb hby d3_70) rfl ?_
    show Steps p.tables e below (T127.setTop (mkF m 71 #[.val (.ref r0), .val (.int (16 : Int32)), .val (.long q2), .second] [(.int (((q2.toUInt64 >>> ((48 : Int32) &&& 0x3f).toInt64.toUInt64).toInt64).toInt32)), (.int (22 : Int32)), (.ref r0)])) _
    refine XS.i2b X127.here hx rfl (hb hby d3_71) rfl ?_
    show Steps p.tables e below (T127.setTop (mkF m 72 #[.val (.ref r0), .val (.int (16 : Int32)), .val (.long q2), .second] [(.int ((((q2.toUInt64 >>> ((48 : Int32) &&& 0x3f).toInt64.toUInt64).toInt64).toInt32).toInt8.toInt32)), (.int (22 : Int32)), (.ref r0)])) _
    rw [← hv13]
    refine st132 _ ?_
    show Steps p.tables e below (T132.setTop (mkF m 73 #[.val (.ref r0), .val (.int (16 : Int32)), .val (.long q2), .second] [])) _
    refine XS.aloadN X132.here hx rfl (hb hby d3_73) rfl rfl ?_
    refine XS.iloadN X132.here hx rfl (hb hby d3_74) rfl ?_
    refine XS.bipush X132.here hx rfl (hb hby d3_75) ?_
    show Steps p.tables e below (T132.setTop (mkF m 77 #[.val (.ref r0), .val (.int (16 : Int32)), .val (.long q2), .second] [(.int (7 : Int32)), (.int (16 : Int32)), (.ref r0)])) _
    refine XS.iadd X132.here hx rfl (hb hby d3_77) rfl ?_
    show Steps p.tables e below (T132.setTop (mkF m 78 #[.val (.ref r0), .val (.int (16 : Int32)), .val (.long q2), .second] [(.int (23 : Int32)), (.ref r0)])) _
    refine XS.lloadN X132.here hx rfl (hb hby d3_78) rfl ?_
    refine XS.bipush X132.here hx rfl (hb hby d3_79) ?_
    refine XS.lushr X132.here hx rfl (hb hby d3_81) rfl ?_
    show Steps p.tables e below (T132.setTop (mkF m 82 #[.val (.ref r0), .val (.int (16 : Int32)), .val (.long q2), .second] [(.long ((q2.toUInt64 >>> ((56 : Int32) &&& 0x3f).toInt64.toUInt64).toInt64)), (.int (23 : Int32)), (.ref r0)])) _
    refine XS.l2i X132.here hx rfl (hb hby d3_82) rfl ?_
    show Steps p.tables e below (T132.setTop (mkF m 83 #[.val (.ref r0), .val (.int (16 : Int32)), .val (.long q2), .second] [(.int (((q2.toUInt64 >>> ((56 : Int32) &&& 0x3f).toInt64.toUInt64).toInt64).toInt32)), (.int (23 : Int32)), (.ref r0)])) _
    refine XS.i2b X132.here hx rfl (hb hby d3_83) rfl ?_
    show Steps p.tables e below (T132.setTop (mkF m 84 #[.val (.ref r0), .val (.int (16 : Int32)), .val (.long q2), .second] [(.int ((((q2.toUInt64 >>> ((56 : Int32) &&& 0x3f).toInt64.toUInt64).toInt64).toInt32).toInt8.toInt32)), (.int (23 : Int32)), (.ref r0)])) _
    rw [← hv15]
    refine st137 _ ?_
    exact kt
  refine own_go hgo141 ?_
  exact own_retV X137 hx Bd.returns Bd.notSynchronized (hb hby d3_85) (by decide) (by decide) (by rw [e137]; exact ⟨(by rfl), N140, K139, (by subst hv16 hv15 hv14 hv13 hv12 hv11 hv10 hv9 hv8 hv7 hv6 hv5 hv4 hv3 hv2 hv1; exact B137n)⟩)
theorem d5_0 : decode prog_39_method_1_code 0 = .ok (.aload_n 0, 1) := by decide +kernel
theorem d5_1 : decode prog_39_method_1_code 1 = .ok (.invokespecial 1, 3) := by decide +kernel
theorem d5_4 : decode prog_39_method_1_code 4 = .ok (.aload_n 0, 1) := by decide +kernel
theorem d5_5 : decode prog_39_method_1_code 5 = .ok (.aload_n 1, 1) := by decide +kernel
theorem d5_6 : decode prog_39_method_1_code 6 = .ok (.putfield 7, 3) := by decide +kernel
theorem d5_9 : decode prog_39_method_1_code 9 = .ok (.return_, 1) := by decide +kernel
theorem ef_5 (m : MethodId) (r0 : Addr) (r1 : Addr) : entryFrame m #[(.ref r0), (.ref r1)] 2 = mkF m 0 #[.val (.ref r0), .val (.ref r1)] [] := by (first | (simp [entryFrame, mkF, argsToLocals, Value.category]; done) | rfl)
theorem pn4 : plainName "com/example/canonic/canonic/RiceCode$Bits" = true := by first | (simp [plainName, overriddenIn]; done) | decide +kernel
def Q5 (Z : State) (r0 : Addr) (r1 : Addr) (u_data_r0 : Value) (w3 : Int32) (w4 : Int32) (w5 : Int64) (h0 : Heap) (n0 : Nat) (v : Option Value) (h : Heap) (L : List Loc) : Prop := v = none ∧ Fr n0 L ∧ Keep h0 h [r0] ∧ Exa Z h r0 "com/example/canonic/canonic/RiceCode$Bits" ∧ Fld Z h r0 "com/example/canonic/canonic/RiceCode$Bits" "data" "[B" (.ref r1) ∧ Fld Z h r0 "com/example/canonic/canonic/RiceCode$Bits" "buffered" "I" (.int w3) ∧ Fld Z h r0 "com/example/canonic/canonic/RiceCode$Bits" "next" "I" (.int w4) ∧ Fld Z h r0 "com/example/canonic/canonic/RiceCode$Bits" "buffer" "J" (.long w5)
set_option maxRecDepth 65536 in
set_option maxHeartbeats 40000000 in
theorem rm5 (l : Launch) (Z : State) (a0 : Array Value) (hw : ∀ d ∈ tables_1, d.before a0 Z = true) (ws : List Jvm.Cond) (r0 : Addr) (r1 : Addr) (u_data_r0 : Value) (w3 : Int32) (w4 : Int32) (w5 : Int64) (h0 : Heap) (n0 : Nat) (Z0 : n0 ≤ h0.size) (E_r0 : Exa Z h0 r0 "com/example/canonic/canonic/RiceCode$Bits") (F_data_r0 : Fld Z h0 r0 "com/example/canonic/canonic/RiceCode$Bits" "data" "[B" u_data_r0) (F_buffered_r0 : Fld Z h0 r0 "com/example/canonic/canonic/RiceCode$Bits" "buffered" "I" (.int w3)) (F_next_r0 : Fld Z h0 r0 "com/example/canonic/canonic/RiceCode$Bits" "next" "I" (.int w4)) (F_buffer_r0 : Fld Z h0 r0 "com/example/canonic/canonic/RiceCode$Bits" "buffer" "J" (.long w5)) (g_r0 : n0 ≤ r0) :
    MetFree l (⟨"com/example/canonic/canonic/RiceCode$Bits", "<init>", "([B)V"⟩ : MethodName) (head1 (Jvm.Cond.code (⟨"com/example/canonic/canonic/RiceCode$Bits", "<init>", "([B)V"⟩ : MethodName) prog_39_method_1_code 2 none :: ws) ({ frames := 1, cells := 0, slots := 0, locals := 12 } : Room)) (fun a U => a = #[(.ref r0), (.ref r1)] ∧ Z.Warmed39 U.vm ∧ U.heap = h0) (fun _ _ _ _ _ => True) (fun _ U o U' => ∃ v L, o = .returned v ∧ Q5 Z r0 r1 u_data_r0 w3 w4 w5 h0 n0 v U'.heap L ∧ FrameEnd U o U' L ({ frames := 1, cells := 0, slots := 0, locals := 12 } : Room).cells ({ frames := 1, cells := 0, slots := 0, locals := 12 } : Room).slots) := by
  refine MetFree.of_bodySF (plainFor_of_name pn4) hisR ?_
  intro p e s m args below meth c s₁ Bd hml0 hP hK
  obtain ⟨rfl, hZ, hh⟩ := hP
  have hx := Bd.exec
  have hby := Bd.bytes
  have hml : c.maxLocals = 2 := hml0
  have hown : s.vm.findClass "com/example/canonic/canonic/RiceCode$Bits" = some m.cls := findClass_of_methodNamed Bd.named
  have hnm := (name_of_methodNamed Bd.named Bd.method).1
  have X0 : Stand p l e ({ frames := 1, cells := 0, slots := 0, locals := 12 } : Room) s m #[(.ref r0), (.ref r1)] below meth c s₁ [] 0 0 := Stand.of_body Bd
  have e0 : s₁.heap = h0 := by rw [← hh, Bd.state]; rfl
  have N0 := Fr.nil n0
  have K0 : Keep h0 h0 [r0] := Keep.refl h0 _
  show own_Go p e below s (Q5 Z r0 r1 u_data_r0 w3 w4 w5 h0 n0) ({ frames := 1, cells := 0, slots := 0, locals := 12 } : Room).cells ({ frames := 1, cells := 0, slots := 0, locals := 12 } : Room).slots (s₁.setTop (entryFrame m #[(.ref r0), (.ref r1)] 2))
  refine own_go (fun t k => castTop (ef_5 m r0 r1) k) ?_
  obtain ⟨T101, X101, e101, st101⟩ := initO X0 hx hZ hown (hw _ (List.mem_of_getElem? (i := 29) rfl)) (hw _ (List.mem_of_getElem? (i := 30) rfl)) (hw _ (List.mem_of_getElem? (i := 31) rfl)) e0 (g := (mkF m 1 #[.val (.ref r0), .val (.ref r1)] [(.ref r0)])) rfl (by rw [hml]; rfl) rfl (hb hby d5_1) (by decide) (W := 0) (by show 2 * 0 + _ ≤ _; exact Nat.le_of_eq rfl) (by decide)
  obtain ⟨T102, h102, X102, e102, W102, st102⟩ := putF X101 hx hZ hown (host := "") (Or.inl (hw _ (List.mem_of_getElem? (i := 32) rfl))) Via.refl e101 F_data_r0 E_r0 (Or.inr ⟨(hw _ (List.mem_of_getElem? (i := 33) rfl)), rfl, hnm⟩) (hw _ (List.mem_of_getElem? (i := 24) rfl)) (ty := (.array .byte)) (by decide) rfl rfl (g := (mkF m 6 #[.val (.ref r0), .val (.ref r1)] [(.ref r1), (.ref r0)])) rfl rfl (hb hby d5_6)
  have F103 := E_r0.wr W102
  have F104 := F_data_r0.same W102
  have F105 := F_buffered_r0.other W102 (Or.inr (slot_ne (Or.inl (hw _ (List.mem_of_getElem? (i := 44) rfl))) (Or.inr (hw _ (List.mem_of_getElem? (i := 33) rfl))) (by decide) (t := .int) (t' := (.array .byte)) (by decide) (by decide)))
  have F106 := F_next_r0.other W102 (Or.inr (slot_ne (Or.inl (hw _ (List.mem_of_getElem? (i := 46) rfl))) (Or.inr (hw _ (List.mem_of_getElem? (i := 33) rfl))) (by decide) (t := .int) (t' := (.array .byte)) (by decide) (by decide)))
  have F107 := F_buffer_r0.other W102 (Or.inr (slot_ne (Or.inl (hw _ (List.mem_of_getElem? (i := 48) rfl))) (Or.inr (hw _ (List.mem_of_getElem? (i := 33) rfl))) (by decide) (t := .long) (t' := (.array .byte)) (by decide) (by decide)))
  have Z108 : n0 ≤ h102.size := Nat.le_trans Z0 (Keep.of_wr W102).1
  have K109 : Keep h0 h102 [r0] := K0.wr W102 (Or.inl (List.mem_of_getElem? (i := 0) rfl))
  have N110 := Fr.snoc X102 N0 g_r0
  have hgo111 : ∀ t, Steps p.tables e below (T102.setTop (mkF m 9 #[.val (.ref r0), .val (.ref r1)] [])) t → Steps p.tables e below (s₁.setTop (mkF m 0 #[.val (.ref r0), .val (.ref r1)] [])) t := by
    intro t kt
    show Steps p.tables e below (s₁.setTop (mkF m 0 #[.val (.ref r0), .val (.ref r1)] [])) _
    refine XS.aloadN X0.here hx rfl (hb hby d5_0) rfl rfl ?_
    show Steps p.tables e below (s₁.setTop (mkF m 1 #[.val (.ref r0), .val (.ref r1)] [(.ref r0)])) _
    refine st101 _ ?_
    show Steps p.tables e below (T101.setTop (mkF m 4 #[.val (.ref r0), .val (.ref r1)] [])) _
    refine XS.aloadN X101.here hx rfl (hb hby d5_4) rfl rfl ?_
    refine XS.aloadN X101.here hx rfl (hb hby d5_5) rfl rfl ?_
    show Steps p.tables e below (T101.setTop (mkF m 6 #[.val (.ref r0), .val (.ref r1)] [(.ref r1), (.ref r0)])) _
    refine st102 _ ?_
    exact kt
  refine own_go hgo111 ?_
  exact own_retV X102 hx Bd.returns Bd.notSynchronized (hb hby d5_9) (by decide) (by decide) (by rw [e102]; exact ⟨(by rfl), N110, K109, F103, (by exact F104), (by exact F105), (by exact F106), (by exact F107)⟩)
def own_BI (D P : Nat) (nx : Int32) (bf : Int64) (bd : Int32) : Prop := ∃ N x : Nat, bd.toInt = N ∧ nx.toInt = x ∧ N ≤ 63 ∧ x ≤ 24 ∧ P + N = 8 * x ∧ bf.toBitVec.toNat = D / 2 ^ P % 2 ^ N
def own_bytes (D : Nat) (f : Nat → Int32) : Prop := ∀ j, j < 24 → (((f j).toInt64) &&& (255 : Int64)).toBitVec.toNat = D / 2 ^ (8 * j) % 256
theorem own_BIstep {D P : Nat} {f : Nat → Int32} {nx bd nx' bd' : Int32} {bf bf' : Int64} (hf : own_bytes D f) (I : own_BI D P nx bf bd) (h1 : bd < (56 : Int32)) (h2 : nx < (24 : Int32)) (e1 : nx' = (nx + (1 : Int32))) (e2 : bf' = (bf ||| ((((f nx.toNatClampNeg).toInt64) &&& (255 : Int64)) <<< (bd &&& 0x3f).toInt64))) (e3 : bd' = (bd + (8 : Int32))) : own_BI D P nx' bf' bd' := by
  obtain ⟨N, x, i1, i2, i3, i4, i5, i6⟩ := I
  rw [Int32.lt_iff_toInt_lt, show (56 : Int32).toInt = 56 from rfl] at h1
  rw [Int32.lt_iff_toInt_lt, show (24 : Int32).toInt = 24 from rfl] at h2
  have hx : nx.toNatClampNeg = x := by unfold Int32.toNatClampNeg; omega
  refine ⟨N + 8, x + 1, ?_, ?_, by omega, by omega, by omega, ?_⟩
  · rw [e3, Int32.toInt_add, show (8 : Int32).toInt = 8 from rfl, Int.bmod_eq_of_le (by omega) (by omega)]; omega
  · rw [e1, Int32.toInt_add, show (1 : Int32).toInt = 1 from rfl, Int.bmod_eq_of_le (by omega) (by omega)]; omega
  · rw [e2]
    refine own_turn i1 (by omega) i6 ?_
    rw [hx, hf x (by omega), Nat.div_div_eq_div_mul, ← Nat.pow_add, i5]
theorem own_nxin {D P : Nat} {nx bd : Int32} {bf : Int64} (I : own_BI D P nx bf bd) (h2 : nx < (24 : Int32)) : ¬ nx < 0 ∧ nx.toNatClampNeg < 24 := by
  obtain ⟨N, x, i1, i2, i3, i4, i5, i6⟩ := I
  rw [Int32.lt_iff_toInt_lt, show (24 : Int32).toInt = 24 from rfl] at h2
  refine ⟨?_, by unfold Int32.toNatClampNeg; omega⟩
  rw [Int32.lt_iff_toInt_lt, show (0 : Int32).toInt = 0 from rfl]; omega
theorem own_nxk {D P k : Nat} {nx bd nx' : Int32} {bf : Int64} (I : own_BI D P nx bf bd) (h2 : nx < (24 : Int32)) (e1 : nx' = (nx + (1 : Int32))) (hk : 25 ≤ nx.toInt.toNat + (k + 1)) : 25 ≤ nx'.toInt.toNat + k := by
  obtain ⟨N, x, i1, i2, i3, i4, i5, i6⟩ := I
  rw [Int32.lt_iff_toInt_lt, show (24 : Int32).toInt = 24 from rfl] at h2
  rw [e1, Int32.toInt_add, show (1 : Int32).toInt = 1 from rfl, Int.bmod_eq_of_le (by omega) (by omega)]; omega
theorem own_BIend {D P : Nat} {nx bd : Int32} {bf : Int64} (I : own_BI D P nx bf bd) (h : ¬ (bd < (56 : Int32)) ∨ ¬ (nx < (24 : Int32))) : 56 ≤ bd.toInt ∨ nx.toInt = 24 := by
  obtain ⟨N, x, i1, i2, i3, i4, i5, i6⟩ := I
  rw [Int32.lt_iff_toInt_lt, Int32.lt_iff_toInt_lt, show (56 : Int32).toInt = 56 from rfl, show (24 : Int32).toInt = 24 from rfl] at h
  omega
theorem d8_0 : decode prog_39_method_4_code 0 = .ok (.aload_n 0, 1) := by decide +kernel
theorem d8_1 : decode prog_39_method_4_code 1 = .ok (.getfield 16, 3) := by decide +kernel
theorem d8_4 : decode prog_39_method_4_code 4 = .ok (.bipush 56, 2) := by decide +kernel
theorem d8_6 : decode prog_39_method_4_code 6 = .ok (.if_icmp .ge 64, 3) := by decide +kernel
theorem d8_9 : decode prog_39_method_4_code 9 = .ok (.aload_n 0, 1) := by decide +kernel
theorem d8_10 : decode prog_39_method_4_code 10 = .ok (.getfield 32, 3) := by decide +kernel
theorem d8_13 : decode prog_39_method_4_code 13 = .ok (.aload_n 0, 1) := by decide +kernel
theorem d8_14 : decode prog_39_method_4_code 14 = .ok (.getfield 7, 3) := by decide +kernel
theorem d8_17 : decode prog_39_method_4_code 17 = .ok (.arraylength, 1) := by decide +kernel
theorem d8_18 : decode prog_39_method_4_code 18 = .ok (.if_icmp .ge 52, 3) := by decide +kernel
theorem d8_21 : decode prog_39_method_4_code 21 = .ok (.aload_n 0, 1) := by decide +kernel
theorem d8_22 : decode prog_39_method_4_code 22 = .ok (.dup, 1) := by decide +kernel
theorem d8_23 : decode prog_39_method_4_code 23 = .ok (.getfield 20, 3) := by decide +kernel
theorem d8_26 : decode prog_39_method_4_code 26 = .ok (.aload_n 0, 1) := by decide +kernel
theorem d8_27 : decode prog_39_method_4_code 27 = .ok (.getfield 7, 3) := by decide +kernel
theorem d8_30 : decode prog_39_method_4_code 30 = .ok (.aload_n 0, 1) := by decide +kernel
theorem d8_31 : decode prog_39_method_4_code 31 = .ok (.dup, 1) := by decide +kernel
theorem d8_32 : decode prog_39_method_4_code 32 = .ok (.getfield 32, 3) := by decide +kernel
theorem d8_35 : decode prog_39_method_4_code 35 = .ok (.dup_x1, 1) := by decide +kernel
theorem d8_36 : decode prog_39_method_4_code 36 = .ok (.iconst 1, 1) := by decide +kernel
theorem d8_37 : decode prog_39_method_4_code 37 = .ok (.iadd, 1) := by decide +kernel
theorem d8_38 : decode prog_39_method_4_code 38 = .ok (.putfield 32, 3) := by decide +kernel
theorem d8_41 : decode prog_39_method_4_code 41 = .ok (.baload, 1) := by decide +kernel
theorem d8_42 : decode prog_39_method_4_code 42 = .ok (.i2l, 1) := by decide +kernel
theorem d8_43 : decode prog_39_method_4_code 43 = .ok (.ldc2_w 35, 3) := by decide +kernel
theorem d8_46 : decode prog_39_method_4_code 46 = .ok (.land, 1) := by decide +kernel
theorem d8_47 : decode prog_39_method_4_code 47 = .ok (.aload_n 0, 1) := by decide +kernel
theorem d8_48 : decode prog_39_method_4_code 48 = .ok (.getfield 16, 3) := by decide +kernel
theorem d8_51 : decode prog_39_method_4_code 51 = .ok (.lshl, 1) := by decide +kernel
theorem d8_52 : decode prog_39_method_4_code 52 = .ok (.lor, 1) := by decide +kernel
theorem d8_53 : decode prog_39_method_4_code 53 = .ok (.putfield 20, 3) := by decide +kernel
theorem d8_56 : decode prog_39_method_4_code 56 = .ok (.aload_n 0, 1) := by decide +kernel
theorem d8_57 : decode prog_39_method_4_code 57 = .ok (.dup, 1) := by decide +kernel
theorem d8_58 : decode prog_39_method_4_code 58 = .ok (.getfield 16, 3) := by decide +kernel
theorem d8_61 : decode prog_39_method_4_code 61 = .ok (.bipush 8, 2) := by decide +kernel
theorem d8_63 : decode prog_39_method_4_code 63 = .ok (.iadd, 1) := by decide +kernel
theorem d8_64 : decode prog_39_method_4_code 64 = .ok (.putfield 16, 3) := by decide +kernel
theorem d8_67 : decode prog_39_method_4_code 67 = .ok (.goto (-67), 3) := by decide +kernel
set_option maxRecDepth 65536 in
set_option maxHeartbeats 40000000 in
theorem own_refill {p : Program} {l : Launch} {e : Env} {R : Room} {s : State} {m : MethodId} {args : Array Value} {below : List Frame} {meth : Method} {c : Code} {cells slots : Nat} {Z : State} {a0 : Array Value} {h0 : Heap} {n0 : Nat} (r0 : Addr) (rd : Addr) (f : Nat → Int32) (D : Nat) (P : Nat) (hx : p.tables.exec = Jvm.exec) (hZ : Z.Warmed39 s.vm) (hw : ∀ d ∈ tables_1, d.before a0 Z = true) (hby : c.code = prog_39_method_4_code) (hml : c.maxLocals = 1) (hown : s.vm.findClass "com/example/canonic/canonic/RiceCode$Bits" = some m.cls) (hg : n0 ≤ r0) (hne : r0 ≠ rd) (hf : own_bytes D f) :
    ∀ (k : Nat) (T : State) (locs : List Loc) (h : Heap) (nx : Int32) (bf : Int64) (bd : Int32), Stand p l e R s m args below meth c T locs cells slots → Fr n0 locs → T.heap = h → n0 ≤ h.size → Keep h0 h [r0] → Exa Z h r0 "com/example/canonic/canonic/RiceCode$Bits" → Fld Z h r0 "com/example/canonic/canonic/RiceCode$Bits" "data" "[B" (.ref rd) → Fld Z h r0 "com/example/canonic/canonic/RiceCode$Bits" "next" "I" (.int nx) → Fld Z h r0 "com/example/canonic/canonic/RiceCode$Bits" "buffer" "J" (.long bf) → Fld Z h r0 "com/example/canonic/canonic/RiceCode$Bits" "buffered" "I" (.int bd) → own_AI Z h rd .byte 24 f → own_BI D P nx bf bd → 25 ≤ nx.toInt.toNat + k → own_Run p e below (T.setTop (mkF m 0 #[.val (.ref r0)] [])) (fun B => ∃ (T' : State) (locs' : List Loc) (h' : Heap) (nx' : Int32) (bf' : Int64) (bd' : Int32), B = T'.setTop (mkF m 70 #[.val (.ref r0)] []) ∧ Stand p l e R s m args below meth c T' locs' cells slots ∧ Fr n0 locs' ∧ T'.heap = h' ∧ n0 ≤ h'.size ∧ Keep h0 h' [r0] ∧ Exa Z h' r0 "com/example/canonic/canonic/RiceCode$Bits" ∧ Fld Z h' r0 "com/example/canonic/canonic/RiceCode$Bits" "data" "[B" (.ref rd) ∧ Fld Z h' r0 "com/example/canonic/canonic/RiceCode$Bits" "next" "I" (.int nx') ∧ Fld Z h' r0 "com/example/canonic/canonic/RiceCode$Bits" "buffer" "J" (.long bf') ∧ Fld Z h' r0 "com/example/canonic/canonic/RiceCode$Bits" "buffered" "I" (.int bd') ∧ own_AI Z h' rd .byte 24 f ∧ own_BI D P nx' bf' bd' ∧ (56 ≤ bd'.toInt ∨ nx'.toInt = 24)) := by
  intro k
  induction k with
  | zero =>
    intro T locs h nx bf bd X0 N0 e0 Z0 K0 Ft0 Ft1 Ft2 Ft3 Ft4 Ft5 hI hk
    obtain ⟨N, x, i1, i2, i3, i4, i5, i6⟩ := hI
    omega
  | succ k ih =>
    intro T locs h nx bf bd X0 N0 e0 Z0 K0 Ft0 Ft1 Ft2 Ft3 Ft4 Ft5 hI hk
    obtain ⟨T101, X101, e101, st101⟩ := getF X0 hx hZ hown (host := "") (Or.inl (hw _ (List.mem_of_getElem? (i := 43) rfl))) Via.refl e0 Ft4 (g := (mkF m 1 #[.val (.ref r0)] [(.ref r0)])) rfl rfl (hb hby d8_1)
    have hgo107 : ∀ t, Steps p.tables e below (T101.setTop (mkF m 6 #[.val (.ref r0)] [(.int (56 : Int32)), (.int bd)])) t → Steps p.tables e below (T.setTop (mkF m 0 #[.val (.ref r0)] [])) t := by
      intro t kt
      show Steps p.tables e below (T.setTop (mkF m 0 #[.val (.ref r0)] [])) _
      refine XS.aloadN X0.here hx rfl (hb hby d8_0) rfl rfl ?_
      show Steps p.tables e below (T.setTop (mkF m 1 #[.val (.ref r0)] [(.ref r0)])) _
      refine st101 _ ?_
      show Steps p.tables e below (T101.setTop (mkF m 4 #[.val (.ref r0)] [(.int bd)])) _
      refine XS.bipush X101.here hx rfl (hb hby d8_4) ?_
      exact kt
    refine own_run hgo107 ?_
    by_cases hc6_1 : bd < (56 : Int32)
    · obtain ⟨T108, X108, e108, st108⟩ := getF X101 hx hZ hown (host := "") (Or.inl (hw _ (List.mem_of_getElem? (i := 45) rfl))) Via.refl e101 Ft2 (g := (mkF m 10 #[.val (.ref r0)] [(.ref r0)])) rfl rfl (hb hby d8_10)
      obtain ⟨T109, X109, e109, st109⟩ := getF X108 hx hZ hown (host := "") (Or.inl (hw _ (List.mem_of_getElem? (i := 32) rfl))) Via.refl e108 Ft1 (g := (mkF m 14 #[.val (.ref r0)] [(.ref r0), (.int nx)])) rfl rfl (hb hby d8_14)
      have hgo113 : ∀ t, Steps p.tables e below (T109.setTop (mkF m 18 #[.val (.ref r0)] [(.int (24 : Int32)), (.int nx)])) t → Steps p.tables e below (T101.setTop (mkF m 6 #[.val (.ref r0)] [(.int (56 : Int32)), (.int bd)])) t := by
        intro t kt
        show Steps p.tables e below (T101.setTop (mkF m 6 #[.val (.ref r0)] [(.int (56 : Int32)), (.int bd)])) _
        refine XS.icmpNo X101.here hx rfl (hb hby d8_6) rfl (tlt hc6_1).2.1 ?_
        show Steps p.tables e below (T101.setTop (mkF m 9 #[.val (.ref r0)] [])) _
        refine XS.aloadN X101.here hx rfl (hb hby d8_9) rfl rfl ?_
        show Steps p.tables e below (T101.setTop (mkF m 10 #[.val (.ref r0)] [(.ref r0)])) _
        refine st108 _ ?_
        show Steps p.tables e below (T108.setTop (mkF m 13 #[.val (.ref r0)] [(.int nx)])) _
        refine XS.aloadN X108.here hx rfl (hb hby d8_13) rfl rfl ?_
        show Steps p.tables e below (T108.setTop (mkF m 14 #[.val (.ref r0)] [(.ref r0), (.int nx)])) _
        refine st109 _ ?_
        show Steps p.tables e below (T109.setTop (mkF m 17 #[.val (.ref r0)] [(.ref rd), (.int nx)])) _
        refine own_lenI X109 hx hZ e109 Ft5 (g := (mkF m 17 #[.val (.ref r0)] [(.ref rd), (.int nx)])) rfl rfl (hb hby d8_17) _ ?_
        exact kt
      refine own_run hgo113 ?_
      by_cases hc18_3 : nx < (24 : Int32)
      · obtain ⟨T114, X114, e114, st114⟩ := getF X109 hx hZ hown (host := "") (Or.inl (hw _ (List.mem_of_getElem? (i := 47) rfl))) Via.refl e109 Ft3 (g := (mkF m 23 #[.val (.ref r0)] [(.ref r0), (.ref r0)])) rfl rfl (hb hby d8_23)
        obtain ⟨T115, X115, e115, st115⟩ := getF X114 hx hZ hown (host := "") (Or.inl (hw _ (List.mem_of_getElem? (i := 32) rfl))) Via.refl e114 Ft1 (g := (mkF m 27 #[.val (.ref r0)] [(.ref r0), (.long bf), (.ref r0)])) rfl rfl (hb hby d8_27)
        obtain ⟨T116, X116, e116, st116⟩ := getF X115 hx hZ hown (host := "") (Or.inl (hw _ (List.mem_of_getElem? (i := 45) rfl))) Via.refl e115 Ft2 (g := (mkF m 32 #[.val (.ref r0)] [(.ref r0), (.ref r0), (.ref rd), (.long bf), (.ref r0)])) rfl rfl (hb hby d8_32)
        obtain ⟨v4, hv4⟩ : ∃ z : Int32, z = (nx + (1 : Int32)) := ⟨_, rfl⟩
        obtain ⟨T117, h117, X117, e117, W117, st117⟩ := putF X116 hx hZ hown (host := "") (Or.inl (hw _ (List.mem_of_getElem? (i := 45) rfl))) Via.refl e116 Ft2 Ft0 (Or.inl (hw _ (List.mem_of_getElem? (i := 46) rfl))) (hw _ (List.mem_of_getElem? (i := 24) rfl)) (ty := .int) (by decide) rfl rfl (g := (mkF m 38 #[.val (.ref r0)] [(.int v4), (.ref r0), (.int nx), (.ref rd), (.long bf), (.ref r0)])) rfl rfl (hb hby d8_38)
        have F118 := Ft0.wr W117
        have F119 := Ft1.other W117 (Or.inr (slot_ne (Or.inr (hw _ (List.mem_of_getElem? (i := 33) rfl))) (Or.inl (hw _ (List.mem_of_getElem? (i := 46) rfl))) (by decide) (t := (.array .byte)) (t' := .int) (by decide) (by decide)))
        have F120 := Ft2.same W117
        have F121 := Ft3.other W117 (Or.inr (slot_ne (Or.inl (hw _ (List.mem_of_getElem? (i := 48) rfl))) (Or.inl (hw _ (List.mem_of_getElem? (i := 46) rfl))) (by decide) (t := .long) (t' := .int) (by decide) (by decide)))
        have F122 := Ft4.other W117 (Or.inr (slot_ne (Or.inl (hw _ (List.mem_of_getElem? (i := 44) rfl))) (Or.inl (hw _ (List.mem_of_getElem? (i := 46) rfl))) (by decide) (t := .int) (t' := .int) (by decide) (by decide)))
        have F123 := Ft5.other W117 (Ne.symm hne)
        have Z124 : n0 ≤ h117.size := Nat.le_trans Z0 (Keep.of_wr W117).1
        have K125 : Keep h0 h117 [r0] := K0.wr W117 (Or.inl (List.mem_of_getElem? (i := 0) rfl))
        have N126 := Fr.snoc X117 N0 hg
        have hin41_127 : ¬ nx < 0 ∧ nx.toNatClampNeg < 24 := own_nxin hI hc18_3
        obtain ⟨T128, X128, e128, st128⟩ := getF X117 hx hZ hown (host := "") (Or.inl (hw _ (List.mem_of_getElem? (i := 43) rfl))) Via.refl e117 F122 (g := (mkF m 48 #[.val (.ref r0)] [(.ref r0), (.long (((f nx.toNatClampNeg).toInt64) &&& (255 : Int64))), (.long bf), (.ref r0)])) rfl rfl (hb hby d8_48)
        obtain ⟨v5, hv5⟩ : ∃ z : Int64, z = (bf ||| ((((f nx.toNatClampNeg).toInt64) &&& (255 : Int64)) <<< (bd &&& 0x3f).toInt64)) := ⟨_, rfl⟩
        obtain ⟨T129, h129, X129, e129, W129, st129⟩ := putF X128 hx hZ hown (host := "") (Or.inl (hw _ (List.mem_of_getElem? (i := 47) rfl))) Via.refl e128 F121 F118 (Or.inl (hw _ (List.mem_of_getElem? (i := 48) rfl))) (hw _ (List.mem_of_getElem? (i := 24) rfl)) (ty := .long) (by decide) rfl rfl (g := (mkF m 53 #[.val (.ref r0)] [(.long v5), (.ref r0)])) rfl rfl (hb hby d8_53)
        have F130 := F118.wr W129
        have F131 := F119.other W129 (Or.inr (slot_ne (Or.inr (hw _ (List.mem_of_getElem? (i := 33) rfl))) (Or.inl (hw _ (List.mem_of_getElem? (i := 48) rfl))) (by decide) (t := (.array .byte)) (t' := .long) (by decide) (by decide)))
        have F132 := F120.other W129 (Or.inr (slot_ne (Or.inl (hw _ (List.mem_of_getElem? (i := 46) rfl))) (Or.inl (hw _ (List.mem_of_getElem? (i := 48) rfl))) (by decide) (t := .int) (t' := .long) (by decide) (by decide)))
        have F133 := F121.same W129
        have F134 := F122.other W129 (Or.inr (slot_ne (Or.inl (hw _ (List.mem_of_getElem? (i := 44) rfl))) (Or.inl (hw _ (List.mem_of_getElem? (i := 48) rfl))) (by decide) (t := .int) (t' := .long) (by decide) (by decide)))
        have F135 := F123.other W129 (Ne.symm hne)
        have Z136 : n0 ≤ h129.size := Nat.le_trans Z124 (Keep.of_wr W129).1
        have K137 : Keep h0 h129 [r0] := K125.wr W129 (Or.inl (List.mem_of_getElem? (i := 0) rfl))
        have N138 := Fr.snoc X129 N126 hg
        obtain ⟨T139, X139, e139, st139⟩ := getF X129 hx hZ hown (host := "") (Or.inl (hw _ (List.mem_of_getElem? (i := 43) rfl))) Via.refl e129 F134 (g := (mkF m 58 #[.val (.ref r0)] [(.ref r0), (.ref r0)])) rfl rfl (hb hby d8_58)
        obtain ⟨v6, hv6⟩ : ∃ z : Int32, z = (bd + (8 : Int32)) := ⟨_, rfl⟩
        obtain ⟨T140, h140, X140, e140, W140, st140⟩ := putF X139 hx hZ hown (host := "") (Or.inl (hw _ (List.mem_of_getElem? (i := 43) rfl))) Via.refl e139 F134 F130 (Or.inl (hw _ (List.mem_of_getElem? (i := 44) rfl))) (hw _ (List.mem_of_getElem? (i := 24) rfl)) (ty := .int) (by decide) rfl rfl (g := (mkF m 64 #[.val (.ref r0)] [(.int v6), (.ref r0)])) rfl rfl (hb hby d8_64)
        have F141 := F130.wr W140
        have F142 := F131.other W140 (Or.inr (slot_ne (Or.inr (hw _ (List.mem_of_getElem? (i := 33) rfl))) (Or.inl (hw _ (List.mem_of_getElem? (i := 44) rfl))) (by decide) (t := (.array .byte)) (t' := .int) (by decide) (by decide)))
        have F143 := F132.other W140 (Or.inr (slot_ne (Or.inl (hw _ (List.mem_of_getElem? (i := 46) rfl))) (Or.inl (hw _ (List.mem_of_getElem? (i := 44) rfl))) (by decide) (t := .int) (t' := .int) (by decide) (by decide)))
        have F144 := F133.other W140 (Or.inr (slot_ne (Or.inl (hw _ (List.mem_of_getElem? (i := 48) rfl))) (Or.inl (hw _ (List.mem_of_getElem? (i := 44) rfl))) (by decide) (t := .long) (t' := .int) (by decide) (by decide)))
        have F145 := F134.same W140
        have F146 := F135.other W140 (Ne.symm hne)
        have Z147 : n0 ≤ h140.size := Nat.le_trans Z136 (Keep.of_wr W140).1
        have K148 : Keep h0 h140 [r0] := K137.wr W140 (Or.inl (List.mem_of_getElem? (i := 0) rfl))
        have N149 := Fr.snoc X140 N138 hg
        have hgo150 : ∀ t, Steps p.tables e below (T140.setTop (mkF m 0 #[.val (.ref r0)] [])) t → Steps p.tables e below (T109.setTop (mkF m 18 #[.val (.ref r0)] [(.int (24 : Int32)), (.int nx)])) t := by
          intro t kt
          show Steps p.tables e below (T109.setTop (mkF m 18 #[.val (.ref r0)] [(.int (24 : Int32)), (.int nx)])) _
          refine XS.icmpNo X109.here hx rfl (hb hby d8_18) rfl (tlt hc18_3).2.1 ?_
          show Steps p.tables e below (T109.setTop (mkF m 21 #[.val (.ref r0)] [])) _
          refine XS.aloadN X109.here hx rfl (hb hby d8_21) rfl rfl ?_
          refine XS.dup X109.here hx rfl (hb hby d8_22) rfl rfl ?_
          show Steps p.tables e below (T109.setTop (mkF m 23 #[.val (.ref r0)] [(.ref r0), (.ref r0)])) _
          refine st114 _ ?_
          show Steps p.tables e below (T114.setTop (mkF m 26 #[.val (.ref r0)] [(.long bf), (.ref r0)])) _
          refine XS.aloadN X114.here hx rfl (hb hby d8_26) rfl rfl ?_
          show Steps p.tables e below (T114.setTop (mkF m 27 #[.val (.ref r0)] [(.ref r0), (.long bf), (.ref r0)])) _
          refine st115 _ ?_
          show Steps p.tables e below (T115.setTop (mkF m 30 #[.val (.ref r0)] [(.ref rd), (.long bf), (.ref r0)])) _
          refine XS.aloadN X115.here hx rfl (hb hby d8_30) rfl rfl ?_
          refine XS.dup X115.here hx rfl (hb hby d8_31) rfl rfl ?_
          show Steps p.tables e below (T115.setTop (mkF m 32 #[.val (.ref r0)] [(.ref r0), (.ref r0), (.ref rd), (.long bf), (.ref r0)])) _
          refine st116 _ ?_
          show Steps p.tables e below (T116.setTop (mkF m 35 #[.val (.ref r0)] [(.int nx), (.ref r0), (.ref rd), (.long bf), (.ref r0)])) _
          refine XS.dupX1 X116.here hx rfl (hb hby d8_35) rfl rfl rfl ?_
          show Steps p.tables e below (T116.setTop (mkF m 36 #[.val (.ref r0)] [(.int nx), (.ref r0), (.int nx), (.ref rd), (.long bf), (.ref r0)])) _
          refine XS.iconst X116.here hx rfl (hb hby d8_36) ?_
          refine XS.iadd X116.here hx rfl (hb hby d8_37) rfl ?_
          show Steps p.tables e below (T116.setTop (mkF m 38 #[.val (.ref r0)] [(.int (nx + (1 : Int32))), (.ref r0), (.int nx), (.ref rd), (.long bf), (.ref r0)])) _
          rw [← hv4]
          refine st117 _ ?_
          show Steps p.tables e below (T117.setTop (mkF m 41 #[.val (.ref r0)] [(.int nx), (.ref rd), (.long bf), (.ref r0)])) _
          refine own_ldB X117 hx hZ e117 F123 (j := nx) hin41_127 (g := (mkF m 41 #[.val (.ref r0)] [(.int nx), (.ref rd), (.long bf), (.ref r0)])) rfl rfl (hb hby d8_41) _ ?_
          show Steps p.tables e below (T117.setTop (mkF m 42 #[.val (.ref r0)] [(.int (f nx.toNatClampNeg)), (.long bf), (.ref r0)])) _
          refine XS.i2l X117.here hx rfl (hb hby d8_42) rfl ?_
          show Steps p.tables e below (T117.setTop (mkF m 43 #[.val (.ref r0)] [(.long ((f nx.toNatClampNeg).toInt64)), (.long bf), (.ref r0)])) _
          refine X117.ldc2Long hx hown (mvT hZ (hw _ (List.mem_of_getElem? (i := 49) rfl))) (g := (mkF m 43 #[.val (.ref r0)] [(.long ((f nx.toNatClampNeg).toInt64)), (.long bf), (.ref r0)])) rfl (hb hby d8_43) _ ?_
          show Steps p.tables e below (T117.setTop (mkF m 46 #[.val (.ref r0)] [(.long (255 : Int64)), (.long ((f nx.toNatClampNeg).toInt64)), (.long bf), (.ref r0)])) _
          refine XS.land X117.here hx rfl (hb hby d8_46) rfl ?_
          show Steps p.tables e below (T117.setTop (mkF m 47 #[.val (.ref r0)] [(.long (((f nx.toNatClampNeg).toInt64) &&& (255 : Int64))), (.long bf), (.ref r0)])) _
          refine XS.aloadN X117.here hx rfl (hb hby d8_47) rfl rfl ?_
          show Steps p.tables e below (T117.setTop (mkF m 48 #[.val (.ref r0)] [(.ref r0), (.long (((f nx.toNatClampNeg).toInt64) &&& (255 : Int64))), (.long bf), (.ref r0)])) _
          refine st128 _ ?_
          show Steps p.tables e below (T128.setTop (mkF m 51 #[.val (.ref r0)] [(.int bd), (.long (((f nx.toNatClampNeg).toInt64) &&& (255 : Int64))), (.long bf), (.ref r0)])) _
          refine XS.lshl X128.here hx rfl (hb hby d8_51) rfl ?_
          show Steps p.tables e below (T128.setTop (mkF m 52 #[.val (.ref r0)] [(.long ((((f nx.toNatClampNeg).toInt64) &&& (255 : Int64)) <<< (bd &&& 0x3f).toInt64)), (.long bf), (.ref r0)])) _
          refine XS.lor X128.here hx rfl (hb hby d8_52) rfl ?_
          show Steps p.tables e below (T128.setTop (mkF m 53 #[.val (.ref r0)] [(.long (bf ||| ((((f nx.toNatClampNeg).toInt64) &&& (255 : Int64)) <<< (bd &&& 0x3f).toInt64))), (.ref r0)])) _
          rw [← hv5]
          refine st129 _ ?_
          show Steps p.tables e below (T129.setTop (mkF m 56 #[.val (.ref r0)] [])) _
          refine XS.aloadN X129.here hx rfl (hb hby d8_56) rfl rfl ?_
          refine XS.dup X129.here hx rfl (hb hby d8_57) rfl rfl ?_
          show Steps p.tables e below (T129.setTop (mkF m 58 #[.val (.ref r0)] [(.ref r0), (.ref r0)])) _
          refine st139 _ ?_
          show Steps p.tables e below (T139.setTop (mkF m 61 #[.val (.ref r0)] [(.int bd), (.ref r0)])) _
          refine XS.bipush X139.here hx rfl (hb hby d8_61) ?_
          refine XS.iadd X139.here hx rfl (hb hby d8_63) rfl ?_
          show Steps p.tables e below (T139.setTop (mkF m 64 #[.val (.ref r0)] [(.int (bd + (8 : Int32))), (.ref r0)])) _
          rw [← hv6]
          refine st140 _ ?_
          show Steps p.tables e below (T140.setTop (mkF m 67 #[.val (.ref r0)] [])) _
          refine XS.goto X140.here hx rfl (pc0 := 67) (pc' := 0) rfl (hb hby d8_67) (by decide) (by decide) ?_
          exact kt
        refine own_run hgo150 ?_
        exact ih _ _ _ v4 v5 v6 X140 N149 e140 Z147 K148 F141 F142 F143 F144 F145 F146 (own_BIstep hf hI hc6_1 hc18_3 hv4 hv5 hv6) (own_nxk hI hc18_3 hv4 hk)
      · have hgo151 : ∀ t, Steps p.tables e below (T109.setTop (mkF m 70 #[.val (.ref r0)] [])) t → Steps p.tables e below (T109.setTop (mkF m 18 #[.val (.ref r0)] [(.int (24 : Int32)), (.int nx)])) t := by
          intro t kt
          show Steps p.tables e below (T109.setTop (mkF m 18 #[.val (.ref r0)] [(.int (24 : Int32)), (.int nx)])) _
          refine XS.icmpYes X109.here hx rfl (pc0 := 18) (pc' := 70) rfl (hb hby d8_18) rfl (flt hc18_3).2.1 (by decide) (by decide) ?_
          exact kt
        refine own_run hgo151 ?_
        exact ⟨_, ⟨_, _, _, nx, bf, bd, rfl, X109, N0, e109, Z0, K0, Ft0, Ft1, Ft2, Ft3, Ft4, Ft5, hI, own_BIend hI (Or.inr hc18_3)⟩, fun t kt => kt⟩
    · have hgo152 : ∀ t, Steps p.tables e below (T101.setTop (mkF m 70 #[.val (.ref r0)] [])) t → Steps p.tables e below (T101.setTop (mkF m 6 #[.val (.ref r0)] [(.int (56 : Int32)), (.int bd)])) t := by
        intro t kt
        show Steps p.tables e below (T101.setTop (mkF m 6 #[.val (.ref r0)] [(.int (56 : Int32)), (.int bd)])) _
        refine XS.icmpYes X101.here hx rfl (pc0 := 6) (pc' := 70) rfl (hb hby d8_6) rfl (flt hc6_1).2.1 (by decide) (by decide) ?_
        exact kt
      refine own_run hgo152 ?_
      exact ⟨_, ⟨_, _, _, nx, bf, bd, rfl, X101, N0, e101, Z0, K0, Ft0, Ft1, Ft2, Ft3, Ft4, Ft5, hI, own_BIend hI (Or.inl hc6_1)⟩, fun t kt => kt⟩
theorem d8_70 : decode prog_39_method_4_code 70 = .ok (.return_, 1) := by decide +kernel
theorem ef_rf (m : MethodId) (r0 : Addr) : entryFrame m #[(.ref r0)] 1 = mkF m 0 #[.val (.ref r0)] [] := by (first | (simp [entryFrame, mkF, argsToLocals, Value.category]; done) | rfl)
def Qrf (Z : State) (r0 : Addr) (rd : Addr) (f : Nat → Int32) (D : Nat) (P : Nat) (nx : Int32) (bf : Int64) (bd : Int32) (h0 : Heap) (n0 : Nat) (v : Option Value) (h : Heap) (L : List Loc) : Prop := ∃ x0 : Int32, ∃ x1 : Int64, ∃ x2 : Int32, v = none ∧ Fr n0 L ∧ Keep h0 h [r0] ∧ Exa Z h r0 "com/example/canonic/canonic/RiceCode$Bits" ∧ Fld Z h r0 "com/example/canonic/canonic/RiceCode$Bits" "data" "[B" (.ref rd) ∧ Fld Z h r0 "com/example/canonic/canonic/RiceCode$Bits" "next" "I" (.int x0) ∧ Fld Z h r0 "com/example/canonic/canonic/RiceCode$Bits" "buffer" "J" (.long x1) ∧ Fld Z h r0 "com/example/canonic/canonic/RiceCode$Bits" "buffered" "I" (.int x2) ∧ own_BI D P x0 x1 x2 ∧ (56 ≤ x2.toInt ∨ x0.toInt = 24)
set_option maxRecDepth 65536 in
set_option maxHeartbeats 40000000 in
theorem rmrf (l : Launch) (Z : State) (a0 : Array Value) (hw : ∀ d ∈ tables_1, d.before a0 Z = true) (ws : List Jvm.Cond) (r0 : Addr) (rd : Addr) (f : Nat → Int32) (D : Nat) (P : Nat) (nx : Int32) (bf : Int64) (bd : Int32) (h0 : Heap) (n0 : Nat) (Z0 : n0 ≤ h0.size) (Ft0 : Exa Z h0 r0 "com/example/canonic/canonic/RiceCode$Bits") (Ft1 : Fld Z h0 r0 "com/example/canonic/canonic/RiceCode$Bits" "data" "[B" (.ref rd)) (Ft2 : Fld Z h0 r0 "com/example/canonic/canonic/RiceCode$Bits" "next" "I" (.int nx)) (Ft3 : Fld Z h0 r0 "com/example/canonic/canonic/RiceCode$Bits" "buffer" "J" (.long bf)) (Ft4 : Fld Z h0 r0 "com/example/canonic/canonic/RiceCode$Bits" "buffered" "I" (.int bd)) (Ft5 : own_AI Z h0 rd .byte 24 f) (hne : r0 ≠ rd) (hg : n0 ≤ r0) (hf : own_bytes D f) (hI : own_BI D P nx bf bd) :
    MetFree l (⟨"com/example/canonic/canonic/RiceCode$Bits", "refill", "()V"⟩ : MethodName) (head1 (Jvm.Cond.code (⟨"com/example/canonic/canonic/RiceCode$Bits", "refill", "()V"⟩ : MethodName) prog_39_method_4_code 1 none :: ws) ({ frames := 0, cells := 0, slots := 0, locals := 0 } : Room)) (fun a U => a = #[(.ref r0)] ∧ Z.Warmed39 U.vm ∧ U.heap = h0) (fun _ _ _ _ _ => True) (fun _ U o U' => ∃ v L, o = .returned v ∧ Qrf Z r0 rd f D P nx bf bd h0 n0 v U'.heap L ∧ FrameEnd U o U' L ({ frames := 0, cells := 0, slots := 0, locals := 0 } : Room).cells ({ frames := 0, cells := 0, slots := 0, locals := 0 } : Room).slots) := by
  refine MetFree.of_bodySF (plainFor_of_name pn4) hisR ?_
  intro p e s m args below meth c s₁ Bd hml0 hP hK
  obtain ⟨rfl, hZ, hh⟩ := hP
  have hx := Bd.exec
  have hby := Bd.bytes
  have hml : c.maxLocals = 1 := hml0
  have hown : s.vm.findClass "com/example/canonic/canonic/RiceCode$Bits" = some m.cls := findClass_of_methodNamed Bd.named
  have hnm := (name_of_methodNamed Bd.named Bd.method).1
  have X0 : Stand p l e ({ frames := 0, cells := 0, slots := 0, locals := 0 } : Room) s m #[(.ref r0)] below meth c s₁ [] 0 0 := Stand.of_body Bd
  have e0 : s₁.heap = h0 := by rw [← hh, Bd.state]; rfl
  have N0 := Fr.nil n0
  have K0 : Keep h0 h0 [r0] := Keep.refl h0 _
  show own_Go p e below s (Qrf Z r0 rd f D P nx bf bd h0 n0) ({ frames := 0, cells := 0, slots := 0, locals := 0 } : Room).cells ({ frames := 0, cells := 0, slots := 0, locals := 0 } : Room).slots (s₁.setTop (entryFrame m #[(.ref r0)] 1))
  refine own_go (fun t k => castTop (ef_rf m r0) k) ?_
  obtain ⟨_, ⟨T1, lc1, h1, nx1, bf1, bd1, rfl, X1, N1, e1, Z1, K1, E1, Fd1, Fn1, Fb1, Fc1, A1, I1, J1⟩, stR⟩ := own_refill r0 rd f D P hx hZ hw hby hml hown hg hne hf 25 _ _ _ nx bf bd X0 N0 e0 Z0 K0 Ft0 Ft1 Ft2 Ft3 Ft4 Ft5 hI (Nat.le_add_left _ _)
  have hgo101 : ∀ t, Steps p.tables e below (T1.setTop (mkF m 70 #[.val (.ref r0)] [])) t → Steps p.tables e below (s₁.setTop (mkF m 0 #[.val (.ref r0)] [])) t := by
    intro t kt
    refine stR _ ?_
    exact kt
  refine own_go hgo101 ?_
  exact own_retV X1 hx Bd.returns Bd.notSynchronized (hb hby d8_70) (by decide) (by decide) (by rw [e1]; exact ⟨nx1, bf1, bd1, (by rfl), N1, K1, E1, Fd1, Fn1, Fb1, Fc1, I1, J1⟩)
theorem own_BIdrop {D P cn : Nat} {nx bd p bd' : Int32} {bf bf' : Int64} (I : own_BI D P nx bf bd) (hp : p.toInt = cn) (hc : (cn : Int) ≤ bd.toInt) (e1 : bf' = ((bf.toUInt64 >>> (p &&& 0x3f).toInt64.toUInt64).toInt64)) (e2 : bd' = (bd - p)) : own_BI D (P + cn) nx bf' bd' := by
  obtain ⟨N, x, i1, i2, i3, i4, i5, i6⟩ := I
  refine ⟨N - cn, x, ?_, i2, by omega, i4, by omega, ?_⟩
  · rw [e2, Int32.toInt_sub, Int.bmod_eq_of_le (by omega) (by omega)]; omega
  · rw [e1, own_drop hp (by omega) (by omega) i6, Nat.div_div_eq_div_mul, ← Nat.pow_add]
theorem own_enough {D P cn : Nat} {nx bd : Int32} {bf : Int64} (I : own_BI D P nx bf bd) (J : 56 ≤ bd.toInt ∨ nx.toInt = 24) (h1 : cn ≤ 56) (h2 : P + cn ≤ 192) : (cn : Int) ≤ bd.toInt := by
  obtain ⟨N, x, i1, i2, i3, i4, i5, i6⟩ := I
  omega
theorem own_nlt {bd p : Int32} {cn : Nat} (hp : p.toInt = cn) (h : (cn : Int) ≤ bd.toInt) : ¬ (bd < p) := by
  rw [Int32.lt_iff_toInt_lt]; omega
theorem own_BItake {D P cn : Nat} {nx bd p y v : Int32} {bf : Int64} (I : own_BI D P nx bf bd) (hp : p.toInt = cn) (hc : (cn : Int) ≤ bd.toInt) (h28 : cn ≤ 28) (hy : y.toInt = ((D / 2 ^ P % 2 ^ cn : Nat) : Int)) (e : v = ((bf &&& (((1 : Int64) <<< (p &&& 0x3f).toInt64) - (1 : Int64))).toInt32)) : v = y := by
  obtain ⟨N, x, i1, i2, i3, i4, i5, i6⟩ := I
  apply Int32.toInt_inj.mp
  rw [e, own_take hp (by omega) h28 i6, hy]
theorem pd5 : parseMethodDescriptor "()V" = some ⟨[], none⟩ := by decide +kernel
theorem d11_0 : decode prog_39_method_3_code 0 = .ok (.aload_n 0, 1) := by decide +kernel
theorem d11_1 : decode prog_39_method_3_code 1 = .ok (.invokevirtual 13, 3) := by decide +kernel
theorem d11_4 : decode prog_39_method_3_code 4 = .ok (.aload_n 0, 1) := by decide +kernel
theorem d11_5 : decode prog_39_method_3_code 5 = .ok (.getfield 16, 3) := by decide +kernel
theorem d11_8 : decode prog_39_method_3_code 8 = .ok (.iload_n 1, 1) := by decide +kernel
theorem d11_9 : decode prog_39_method_3_code 9 = .ok (.if_icmp .ge 5, 3) := by decide +kernel
theorem d11_14 : decode prog_39_method_3_code 14 = .ok (.aload_n 0, 1) := by decide +kernel
theorem d11_15 : decode prog_39_method_3_code 15 = .ok (.getfield 20, 3) := by decide +kernel
theorem d11_18 : decode prog_39_method_3_code 18 = .ok (.lconst 1, 1) := by decide +kernel
theorem d11_19 : decode prog_39_method_3_code 19 = .ok (.iload_n 1, 1) := by decide +kernel
theorem d11_20 : decode prog_39_method_3_code 20 = .ok (.lshl, 1) := by decide +kernel
theorem d11_21 : decode prog_39_method_3_code 21 = .ok (.lconst 1, 1) := by decide +kernel
theorem d11_22 : decode prog_39_method_3_code 22 = .ok (.lsub, 1) := by decide +kernel
theorem d11_23 : decode prog_39_method_3_code 23 = .ok (.land, 1) := by decide +kernel
theorem d11_24 : decode prog_39_method_3_code 24 = .ok (.l2i, 1) := by decide +kernel
theorem d11_25 : decode prog_39_method_3_code 25 = .ok (.istore_n 2, 1) := by decide +kernel
theorem d11_26 : decode prog_39_method_3_code 26 = .ok (.aload_n 0, 1) := by decide +kernel
theorem d11_27 : decode prog_39_method_3_code 27 = .ok (.dup, 1) := by decide +kernel
theorem d11_28 : decode prog_39_method_3_code 28 = .ok (.getfield 20, 3) := by decide +kernel
theorem d11_31 : decode prog_39_method_3_code 31 = .ok (.iload_n 1, 1) := by decide +kernel
theorem d11_32 : decode prog_39_method_3_code 32 = .ok (.lushr, 1) := by decide +kernel
theorem d11_33 : decode prog_39_method_3_code 33 = .ok (.putfield 20, 3) := by decide +kernel
theorem d11_36 : decode prog_39_method_3_code 36 = .ok (.aload_n 0, 1) := by decide +kernel
theorem d11_37 : decode prog_39_method_3_code 37 = .ok (.dup, 1) := by decide +kernel
theorem d11_38 : decode prog_39_method_3_code 38 = .ok (.getfield 16, 3) := by decide +kernel
theorem d11_41 : decode prog_39_method_3_code 41 = .ok (.iload_n 1, 1) := by decide +kernel
theorem d11_42 : decode prog_39_method_3_code 42 = .ok (.isub, 1) := by decide +kernel
theorem d11_43 : decode prog_39_method_3_code 43 = .ok (.putfield 16, 3) := by decide +kernel
theorem d11_46 : decode prog_39_method_3_code 46 = .ok (.iload_n 2, 1) := by decide +kernel
theorem d11_47 : decode prog_39_method_3_code 47 = .ok (.ireturn, 1) := by decide +kernel
theorem ef_rd (m : MethodId) (r0 : Addr) (p1 : Int32) : entryFrame m #[(.ref r0), (.int p1)] 3 = mkF m 0 #[.val (.ref r0), .val (.int p1), .unset] [] := by (first | (simp [entryFrame, mkF, argsToLocals, Value.category]; done) | rfl)
def Qrd (Z : State) (r0 : Addr) (p1 : Int32) (rd : Addr) (f : Nat → Int32) (D : Nat) (P : Nat) (nx : Int32) (bf : Int64) (bd : Int32) (cn : Nat) (yr : Int32) (h0 : Heap) (n0 : Nat) (v : Option Value) (h : Heap) (L : List Loc) : Prop := ∃ x0 : Int32, ∃ x1 : Int64, ∃ x2 : Int32, v = some (.int yr) ∧ Fr n0 L ∧ Keep h0 h [r0] ∧ Exa Z h r0 "com/example/canonic/canonic/RiceCode$Bits" ∧ Fld Z h r0 "com/example/canonic/canonic/RiceCode$Bits" "data" "[B" (.ref rd) ∧ Fld Z h r0 "com/example/canonic/canonic/RiceCode$Bits" "next" "I" (.int x0) ∧ Fld Z h r0 "com/example/canonic/canonic/RiceCode$Bits" "buffer" "J" (.long x1) ∧ Fld Z h r0 "com/example/canonic/canonic/RiceCode$Bits" "buffered" "I" (.int x2) ∧ own_BI D (P + cn) x0 x1 x2
set_option maxRecDepth 65536 in
set_option maxHeartbeats 40000000 in
theorem rmrd (l : Launch) (Z : State) (a0 : Array Value) (hw : ∀ d ∈ tables_1, d.before a0 Z = true) (ws : List Jvm.Cond) (r0 : Addr) (p1 : Int32) (rd : Addr) (f : Nat → Int32) (D : Nat) (P : Nat) (nx : Int32) (bf : Int64) (bd : Int32) (cn : Nat) (yr : Int32) (h0 : Heap) (n0 : Nat) (Z0 : n0 ≤ h0.size) (Ft0 : Exa Z h0 r0 "com/example/canonic/canonic/RiceCode$Bits") (Ft1 : Fld Z h0 r0 "com/example/canonic/canonic/RiceCode$Bits" "data" "[B" (.ref rd)) (Ft2 : Fld Z h0 r0 "com/example/canonic/canonic/RiceCode$Bits" "next" "I" (.int nx)) (Ft3 : Fld Z h0 r0 "com/example/canonic/canonic/RiceCode$Bits" "buffer" "J" (.long bf)) (Ft4 : Fld Z h0 r0 "com/example/canonic/canonic/RiceCode$Bits" "buffered" "I" (.int bd)) (Ft5 : own_AI Z h0 rd .byte 24 f) (hne : r0 ≠ rd) (hg : n0 ≤ r0) (hf : own_bytes D f) (hI : own_BI D P nx bf bd) (hp : p1.toInt = (cn : Int)) (h28 : cn ≤ 28) (hP : P + cn ≤ 192) (hy : yr.toInt = ((D / 2 ^ P % 2 ^ cn : Nat) : Int)) :
    MetFree l (⟨"com/example/canonic/canonic/RiceCode$Bits", "read", "(I)I"⟩ : MethodName) (head1 (Jvm.Cond.code (⟨"com/example/canonic/canonic/RiceCode$Bits", "read", "(I)I"⟩ : MethodName) prog_39_method_3_code 3 (some .int) :: ws) ({ frames := 1, cells := 0, slots := 0, locals := 12 } : Room)) (fun a U => a = #[(.ref r0), (.int p1)] ∧ Z.Warmed39 U.vm ∧ U.heap = h0) (fun _ _ _ _ _ => True) (fun _ U o U' => ∃ v L, o = .returned v ∧ Qrd Z r0 p1 rd f D P nx bf bd cn yr h0 n0 v U'.heap L ∧ FrameEnd U o U' L ({ frames := 1, cells := 0, slots := 0, locals := 12 } : Room).cells ({ frames := 1, cells := 0, slots := 0, locals := 12 } : Room).slots) := by
  refine MetFree.of_bodySF (plainFor_of_name pn4) hisR ?_
  intro p e s m args below meth c s₁ Bd hml0 hP hK
  obtain ⟨rfl, hZ, hh⟩ := hP
  have hx := Bd.exec
  have hby := Bd.bytes
  have hml : c.maxLocals = 3 := hml0
  have hown : s.vm.findClass "com/example/canonic/canonic/RiceCode$Bits" = some m.cls := findClass_of_methodNamed Bd.named
  have hnm := (name_of_methodNamed Bd.named Bd.method).1
  have X0 : Stand p l e ({ frames := 1, cells := 0, slots := 0, locals := 12 } : Room) s m #[(.ref r0), (.int p1)] below meth c s₁ [] 0 0 := Stand.of_body Bd
  have e0 : s₁.heap = h0 := by rw [← hh, Bd.state]; rfl
  have N0 := Fr.nil n0
  have K0 : Keep h0 h0 [r0] := Keep.refl h0 _
  show own_Go p e below s (Qrd Z r0 p1 rd f D P nx bf bd cn yr h0 n0) ({ frames := 1, cells := 0, slots := 0, locals := 12 } : Room).cells ({ frames := 1, cells := 0, slots := 0, locals := 12 } : Room).slots (s₁.setTop (entryFrame m #[(.ref r0), (.int p1)] 3))
  refine own_go (fun t k => castTop (ef_rd m r0 p1) k) ?_
  obtain ⟨cq101, q101, q101'⟩ := Ft0.cell
  obtain ⟨_, _, ⟨T101, L101, k101, n101⟩, -, X101, ⟨Lc101, hQ101, l101, y101, z101⟩, st101⟩ := X0.privateBack hx (y := (⟨"com/example/canonic/canonic/RiceCode$Bits", "refill", "()V"⟩ : MethodName)) hown (mvT hZ (hw _ (List.mem_of_getElem? (i := 39) rfl))) (mvT hZ (hw _ (List.mem_of_getElem? (i := 40) rfl))) (own_selPriv (mvT hZ (hw _ (List.mem_of_getElem? (i := 24) rfl))) (mvT hZ (hw _ (List.mem_of_getElem? (i := 40) rfl))) (Cond.privateMethod_at (mvP hZ (hw _ (List.mem_of_getElem? (i := 41) rfl)) (args := #[]))) (by decide)) (Cond.privateMethod_at (mvP hZ (hw _ (List.mem_of_getElem? (i := 41) rfl)) (args := #[]))) (mvT hZ (hw _ (List.mem_of_getElem? (i := 42) rfl))) (by decide) (backOf (W := 0) (rmrf l Z a0 hw [] r0 rd f D P nx bf bd h0 n0 Z0 Ft0 Ft1 Ft2 Ft3 Ft4 Ft5 hne hg (hf : own_bytes D f) (hI : own_BI D P nx bf bd)) hZ (hw _ (List.mem_of_getElem? (i := 42) rfl)) (hw _ (List.mem_of_getElem? (i := 25) rfl)) (by decide) (by decide)) (g := (mkF m 1 #[.val (.ref r0), .val (.int p1), .unset] [(.ref r0)])) rfl (by rw [hml]; rfl) (Steps.refl _) (a := r0) (by rw [e0]; exact q101) q101' (argsL := []) (rest := []) (lenOf pd5 rfl) rfl (by show 2 * 0 + _ ≤ _; exact Nat.le_of_eq rfl) (hb hby d11_1) (fun _ _ => ⟨rfl, e0, (by decide : 0 + 0 ≤ _), (by decide : 0 + 0 ≤ _)⟩)
  dsimp only [Pt.U, Pt.locs, Pt.cells, Pt.slots] at X101 l101 y101 z101 st101 hQ101
  subst l101 y101 z101
  obtain ⟨b101_0, b101_1, b101_2, rfl, N101q, K101q, F101_0, F101_1, F101_2, F101_3, F101_4, F101_5, F101_6⟩ := hQ101
  have F102 := Ft0.keep K101q
  have F103 := Ft5.keep K101q (ninS (Ne.symm hne) nin0)
  have Z104 : n0 ≤ T101.heap.size := Nat.le_trans Z0 K101q.1
  have K105 : Keep h0 T101.heap [r0] := K0.trans K101q (allS (Or.inl (List.mem_of_getElem? (i := 0) rfl)) all0)
  have N101 := Fr.app N0 N101q
  obtain ⟨T106, X106, e106, st106⟩ := getF X101 hx hZ hown (host := "") (Or.inl (hw _ (List.mem_of_getElem? (i := 43) rfl))) Via.refl (rfl : T101.heap = T101.heap) F101_4 (g := (mkF m 5 #[.val (.ref r0), .val (.int p1), .unset] [(.ref r0)])) rfl rfl (hb hby d11_5)
  obtain ⟨T107, X107, e107, st107⟩ := getF X106 hx hZ hown (host := "") (Or.inl (hw _ (List.mem_of_getElem? (i := 47) rfl))) Via.refl e106 F101_3 (g := (mkF m 15 #[.val (.ref r0), .val (.int p1), .unset] [(.ref r0)])) rfl rfl (hb hby d11_15)
  obtain ⟨v1, hv1⟩ : ∃ z : Int32, z = ((b101_1 &&& (((1 : Int64) <<< (p1 &&& 0x3f).toInt64) - (1 : Int64))).toInt32) := ⟨_, rfl⟩
  obtain ⟨T108, X108, e108, st108⟩ := getF X107 hx hZ hown (host := "") (Or.inl (hw _ (List.mem_of_getElem? (i := 47) rfl))) Via.refl e107 F101_3 (g := (mkF m 28 #[.val (.ref r0), .val (.int p1), .val (.int v1)] [(.ref r0), (.ref r0)])) rfl rfl (hb hby d11_28)
  obtain ⟨v2, hv2⟩ : ∃ z : Int64, z = ((b101_1.toUInt64 >>> (p1 &&& 0x3f).toInt64.toUInt64).toInt64) := ⟨_, rfl⟩
  obtain ⟨T109, h109, X109, e109, W109, st109⟩ := putF X108 hx hZ hown (host := "") (Or.inl (hw _ (List.mem_of_getElem? (i := 47) rfl))) Via.refl e108 F101_3 F101_0 (Or.inl (hw _ (List.mem_of_getElem? (i := 48) rfl))) (hw _ (List.mem_of_getElem? (i := 24) rfl)) (ty := .long) (by decide) rfl rfl (g := (mkF m 33 #[.val (.ref r0), .val (.int p1), .val (.int v1)] [(.long v2), (.ref r0)])) rfl rfl (hb hby d11_33)
  have F110 := F101_0.wr W109
  have F111 := F103.other W109 (Ne.symm hne)
  have F112 := F101_1.other W109 (Or.inr (slot_ne (Or.inr (hw _ (List.mem_of_getElem? (i := 33) rfl))) (Or.inl (hw _ (List.mem_of_getElem? (i := 48) rfl))) (by decide) (t := (.array .byte)) (t' := .long) (by decide) (by decide)))
  have F113 := F101_2.other W109 (Or.inr (slot_ne (Or.inl (hw _ (List.mem_of_getElem? (i := 46) rfl))) (Or.inl (hw _ (List.mem_of_getElem? (i := 48) rfl))) (by decide) (t := .int) (t' := .long) (by decide) (by decide)))
  have F114 := F101_3.same W109
  have F115 := F101_4.other W109 (Or.inr (slot_ne (Or.inl (hw _ (List.mem_of_getElem? (i := 44) rfl))) (Or.inl (hw _ (List.mem_of_getElem? (i := 48) rfl))) (by decide) (t := .int) (t' := .long) (by decide) (by decide)))
  have Z116 : n0 ≤ h109.size := Nat.le_trans Z104 (Keep.of_wr W109).1
  have K117 : Keep h0 h109 [r0] := K105.wr W109 (Or.inl (List.mem_of_getElem? (i := 0) rfl))
  have N118 := Fr.snoc X109 N101 hg
  obtain ⟨T119, X119, e119, st119⟩ := getF X109 hx hZ hown (host := "") (Or.inl (hw _ (List.mem_of_getElem? (i := 43) rfl))) Via.refl e109 F115 (g := (mkF m 38 #[.val (.ref r0), .val (.int p1), .val (.int v1)] [(.ref r0), (.ref r0)])) rfl rfl (hb hby d11_38)
  obtain ⟨v3, hv3⟩ : ∃ z : Int32, z = (b101_2 - p1) := ⟨_, rfl⟩
  obtain ⟨T120, h120, X120, e120, W120, st120⟩ := putF X119 hx hZ hown (host := "") (Or.inl (hw _ (List.mem_of_getElem? (i := 43) rfl))) Via.refl e119 F115 F110 (Or.inl (hw _ (List.mem_of_getElem? (i := 44) rfl))) (hw _ (List.mem_of_getElem? (i := 24) rfl)) (ty := .int) (by decide) rfl rfl (g := (mkF m 43 #[.val (.ref r0), .val (.int p1), .val (.int v1)] [(.int v3), (.ref r0)])) rfl rfl (hb hby d11_43)
  have F121 := F110.wr W120
  have F122 := F111.other W120 (Ne.symm hne)
  have F123 := F112.other W120 (Or.inr (slot_ne (Or.inr (hw _ (List.mem_of_getElem? (i := 33) rfl))) (Or.inl (hw _ (List.mem_of_getElem? (i := 44) rfl))) (by decide) (t := (.array .byte)) (t' := .int) (by decide) (by decide)))
  have F124 := F113.other W120 (Or.inr (slot_ne (Or.inl (hw _ (List.mem_of_getElem? (i := 46) rfl))) (Or.inl (hw _ (List.mem_of_getElem? (i := 44) rfl))) (by decide) (t := .int) (t' := .int) (by decide) (by decide)))
  have F125 := F114.other W120 (Or.inr (slot_ne (Or.inl (hw _ (List.mem_of_getElem? (i := 48) rfl))) (Or.inl (hw _ (List.mem_of_getElem? (i := 44) rfl))) (by decide) (t := .long) (t' := .int) (by decide) (by decide)))
  have F126 := F115.same W120
  have Z127 : n0 ≤ h120.size := Nat.le_trans Z116 (Keep.of_wr W120).1
  have K128 : Keep h0 h120 [r0] := K117.wr W120 (Or.inl (List.mem_of_getElem? (i := 0) rfl))
  have N129 := Fr.snoc X120 N118 hg
  have hgo130 : ∀ t, Steps p.tables e below (T120.setTop (mkF m 47 #[.val (.ref r0), .val (.int p1), .val (.int v1)] [(.int v1)])) t → Steps p.tables e below (s₁.setTop (mkF m 0 #[.val (.ref r0), .val (.int p1), .unset] [])) t := by
    intro t kt
    show Steps p.tables e below (s₁.setTop (mkF m 0 #[.val (.ref r0), .val (.int p1), .unset] [])) _
    refine XS.aloadN X0.here hx rfl (hb hby d11_0) rfl rfl ?_
    show Steps p.tables e below (s₁.setTop (mkF m 1 #[.val (.ref r0), .val (.int p1), .unset] [(.ref r0)])) _
    refine st101.trans ?_
    show Steps p.tables e below (T101.setTop (mkF m 4 #[.val (.ref r0), .val (.int p1), .unset] [])) _
    refine XS.aloadN X101.here hx rfl (hb hby d11_4) rfl rfl ?_
    show Steps p.tables e below (T101.setTop (mkF m 5 #[.val (.ref r0), .val (.int p1), .unset] [(.ref r0)])) _
    refine st106 _ ?_
    show Steps p.tables e below (T106.setTop (mkF m 8 #[.val (.ref r0), .val (.int p1), .unset] [(.int b101_2)])) _
    refine XS.iloadN X106.here hx rfl (hb hby d11_8) rfl ?_
    refine XS.icmpYes X106.here hx rfl (pc0 := 9) (pc' := 14) rfl (hb hby d11_9) rfl (flt (own_nlt hp (own_enough F101_5 F101_6 (by omega) hP))).2.1 (by decide) (by decide) ?_
    show Steps p.tables e below (T106.setTop (mkF m 14 #[.val (.ref r0), .val (.int p1), .unset] [])) _
    refine XS.aloadN X106.here hx rfl (hb hby d11_14) rfl rfl ?_
    show Steps p.tables e below (T106.setTop (mkF m 15 #[.val (.ref r0), .val (.int p1), .unset] [(.ref r0)])) _
    refine st107 _ ?_
    show Steps p.tables e below (T107.setTop (mkF m 18 #[.val (.ref r0), .val (.int p1), .unset] [(.long b101_1)])) _
    refine XS.lconst X107.here hx rfl (hb hby d11_18) ?_
    refine XS.iloadN X107.here hx rfl (hb hby d11_19) rfl ?_
    refine XS.lshl X107.here hx rfl (hb hby d11_20) rfl ?_
    show Steps p.tables e below (T107.setTop (mkF m 21 #[.val (.ref r0), .val (.int p1), .unset] [(.long ((1 : Int64) <<< (p1 &&& 0x3f).toInt64)), (.long b101_1)])) _
    refine XS.lconst X107.here hx rfl (hb hby d11_21) ?_
    refine XS.lsub X107.here hx rfl (hb hby d11_22) rfl ?_
    show Steps p.tables e below (T107.setTop (mkF m 23 #[.val (.ref r0), .val (.int p1), .unset] [(.long (((1 : Int64) <<< (p1 &&& 0x3f).toInt64) - (1 : Int64))), (.long b101_1)])) _
    refine XS.land X107.here hx rfl (hb hby d11_23) rfl ?_
    show Steps p.tables e below (T107.setTop (mkF m 24 #[.val (.ref r0), .val (.int p1), .unset] [(.long (b101_1 &&& (((1 : Int64) <<< (p1 &&& 0x3f).toInt64) - (1 : Int64))))])) _
    refine XS.l2i X107.here hx rfl (hb hby d11_24) rfl ?_
    show Steps p.tables e below (T107.setTop (mkF m 25 #[.val (.ref r0), .val (.int p1), .unset] [(.int ((b101_1 &&& (((1 : Int64) <<< (p1 &&& 0x3f).toInt64) - (1 : Int64))).toInt32))])) _
    rw [← hv1]
    show Steps p.tables e below (T107.setTop (mkF m 25 #[.val (.ref r0), .val (.int p1), .unset] [(.int v1)])) _
    refine XS.istoreN X107.here hx rfl (hb hby d11_25) rfl (l' := #[.val (.ref r0), .val (.int p1), .val (.int v1)]) rfl ?_
    show Steps p.tables e below (T107.setTop (mkF m 26 #[.val (.ref r0), .val (.int p1), .val (.int v1)] [])) _
    refine XS.aloadN X107.here hx rfl (hb hby d11_26) rfl rfl ?_
    refine XS.dup X107.here hx rfl (hb hby d11_27) rfl rfl ?_
    show Steps p.tables e below (T107.setTop (mkF m 28 #[.val (.ref r0), .val (.int p1), .val (.int v1)] [(.ref r0), (.ref r0)])) _
    refine st108 _ ?_
    show Steps p.tables e below (T108.setTop (mkF m 31 #[.val (.ref r0), .val (.int p1), .val (.int v1)] [(.long b101_1), (.ref r0)])) _
    refine XS.iloadN X108.here hx rfl (hb hby d11_31) rfl ?_
    refine XS.lushr X108.here hx rfl (hb hby d11_32) rfl ?_
    show Steps p.tables e below (T108.setTop (mkF m 33 #[.val (.ref r0), .val (.int p1), .val (.int v1)] [(.long ((b101_1.toUInt64 >>> (p1 &&& 0x3f).toInt64.toUInt64).toInt64)), (.ref r0)])) _
    rw [← hv2]
    refine st109 _ ?_
    show Steps p.tables e below (T109.setTop (mkF m 36 #[.val (.ref r0), .val (.int p1), .val (.int v1)] [])) _
    refine XS.aloadN X109.here hx rfl (hb hby d11_36) rfl rfl ?_
    refine XS.dup X109.here hx rfl (hb hby d11_37) rfl rfl ?_
    show Steps p.tables e below (T109.setTop (mkF m 38 #[.val (.ref r0), .val (.int p1), .val (.int v1)] [(.ref r0), (.ref r0)])) _
    refine st119 _ ?_
    show Steps p.tables e below (T119.setTop (mkF m 41 #[.val (.ref r0), .val (.int p1), .val (.int v1)] [(.int b101_2), (.ref r0)])) _
    refine XS.iloadN X119.here hx rfl (hb hby d11_41) rfl ?_
    refine XS.isub X119.here hx rfl (hb hby d11_42) rfl ?_
    show Steps p.tables e below (T119.setTop (mkF m 43 #[.val (.ref r0), .val (.int p1), .val (.int v1)] [(.int (b101_2 - p1)), (.ref r0)])) _
    rw [← hv3]
    refine st120 _ ?_
    show Steps p.tables e below (T120.setTop (mkF m 46 #[.val (.ref r0), .val (.int p1), .val (.int v1)] [])) _
    refine XS.iloadN X120.here hx rfl (hb hby d11_46) rfl ?_
    exact kt
  refine own_go hgo130 ?_
  exact own_retI X120 hx Bd.returns Bd.notSynchronized (hb hby d11_47) (by decide) (by decide) (by rw [e120]; exact ⟨b101_0, v2, v3, (by rw [show v1 = yr from own_BItake F101_5 hp (own_enough F101_5 F101_6 (by omega) hP) h28 hy hv1]), N129, K128, F121, F123, F124, F125, F126, (own_BIdrop F101_5 hp (own_enough F101_5 F101_6 (by omega) hP) hv2 hv3)⟩)
theorem own_ofN {n : Nat} (h : n < 64) : (Int32.ofNat n).toInt = n := by
  rw [Int32.toInt_ofNat', show (Int32.size : Nat) = 2 ^ 32 from rfl, Int.bmod_eq_of_le (by omega) (by omega)]
theorem own_unA {D P q : Nat} {nx bd v : Int32} {bf : Int64} (I : own_BI D P nx bf bd) (hq : D / 2 ^ P % 2 ^ (q + 1) = 2 ^ q - 1) (hv : v = (own_rnL (bf ^^^ (-1 : Int64)))) (h : v < bd) : v.toInt = q ∧ ((q + 1 : Nat) : Int) ≤ bd.toInt := by
  obtain ⟨N, x, i1, i2, i3, i4, i5, i6⟩ := I
  rw [Int32.lt_iff_toInt_lt] at h
  by_cases c : q < N
  · rw [own_run1 i6 hq c i3] at hv
    rw [hv, own_ofN (by omega)]
    exact ⟨rfl, by omega⟩
  · rw [(own_run2 i6 hq (by omega) i3).1] at hv
    rw [hv, own_ofN (by omega)] at h
    omega
theorem own_unB {D P q : Nat} {nx bd v : Int32} {bf : Int64} (I : own_BI D P nx bf bd) (hq : D / 2 ^ P % 2 ^ (q + 1) = 2 ^ q - 1) (hv : v = (own_rnL (bf ^^^ (-1 : Int64)))) (h : ¬ (v < bd)) : bd.toInt.toNat ≤ q ∧ D / 2 ^ (P + bd.toInt.toNat) % 2 ^ (q - bd.toInt.toNat + 1) = 2 ^ (q - bd.toInt.toNat) - 1 ∧ own_BI D (P + bd.toInt.toNat) nx (0 : Int64) (0 : Int32) := by
  obtain ⟨N, x, i1, i2, i3, i4, i5, i6⟩ := I
  rw [Int32.lt_iff_toInt_lt] at h
  have e : bd.toInt.toNat = N := by omega
  rw [e]
  by_cases c : q < N
  · rw [own_run1 i6 hq c i3] at hv
    rw [hv, own_ofN (by omega)] at h
    omega
  · have r := (own_run2 i6 hq (by omega) i3).2
    refine ⟨by omega, ?_, 0, x, rfl, i2, by omega, i4, by omega, ?_⟩
    · rw [Nat.pow_add, ← Nat.div_div_eq_div_mul]; exact r
    · rw [Nat.pow_zero, Nat.mod_one]; rfl
theorem own_toL {v : Int32} {n : Nat} (h : v.toInt = n) : v.toInt64.toBitVec.toNat = n := by
  have hb := Int32.toInt_lt v
  have e : v.toInt64.toInt = n := by rw [Int32.toInt_toInt64, h]
  have e2 : v.toInt64.toBitVec.toInt = n := e
  rw [BitVec.toInt_eq_toNat_cond] at e2
  have := v.toInt64.toBitVec.isLt
  split at e2 <;> omega
theorem own_addL {a b : Int64} (h : a.toBitVec.toNat + b.toBitVec.toNat < 2 ^ 64) : (a + b).toBitVec.toNat = a.toBitVec.toNat + b.toBitVec.toNat := by
  rw [Int64.toBitVec_add, BitVec.toNat_add, Nat.mod_eq_of_lt h]
theorem own_unZ {on z : Int64} {v : Int32} {q : Nat} (hv : v.toInt = q) (h : on.toBitVec.toNat + q = z.toBitVec.toNat) : (on + (v.toInt64)) = z := by
  apply Int64.toBitVec_inj.mp
  apply BitVec.eq_of_toNat_eq
  have e := own_toL hv
  have := z.toBitVec.isLt
  rw [own_addL (by omega), e, h]
theorem own_unO {on on' z : Int64} {bd : Int32} {q : Nat} (hb : 0 ≤ bd.toInt) (hle : bd.toInt.toNat ≤ q) (e : on' = (on + (bd.toInt64))) (h : on.toBitVec.toNat + q = z.toBitVec.toNat) : on'.toBitVec.toNat + (q - bd.toInt.toNat) = z.toBitVec.toNat := by
  have e1 := own_toL (v := bd) (n := bd.toInt.toNat) (by omega)
  have := z.toBitVec.isLt
  rw [e, own_addL (by omega), e1]
  omega
theorem own_add1 {v : Int32} {q : Nat} (hv : v.toInt = q) (hq : q < 64) : (v + (1 : Int32)).toInt = ((q + 1 : Nat) : Int) := by
  rw [Int32.toInt_add, show (1 : Int32).toInt = 1 from rfl, hv, Int.bmod_eq_of_le (by omega) (by omega)]; omega
theorem own_nz0 {bd : Int32} (h : ((1 : Nat) : Int) ≤ bd.toInt) : ¬ (bd = (0 : Int32)) := fun q => by
  rw [q, show (0 : Int32).toInt = 0 from rfl] at h; omega
theorem own_q64 {D P q : Nat} {nx bd : Int32} {bf : Int64} (I : own_BI D P nx bf bd) (h : ((q + 1 : Nat) : Int) ≤ bd.toInt) : q < 64 := by
  obtain ⟨N, x, i1, i2, i3, i4, i5, i6⟩ := I
  omega
theorem pd6 : parseMethodDescriptor "(J)I" = some ⟨[.long], some .int⟩ := by decide +kernel
theorem d7_2 : decode prog_39_method_2_code 2 = .ok (.aload_n 0, 1) := by decide +kernel
theorem d7_3 : decode prog_39_method_2_code 3 = .ok (.invokevirtual 13, 3) := by decide +kernel
theorem d7_6 : decode prog_39_method_2_code 6 = .ok (.aload_n 0, 1) := by decide +kernel
theorem d7_7 : decode prog_39_method_2_code 7 = .ok (.getfield 16, 3) := by decide +kernel
theorem d7_10 : decode prog_39_method_2_code 10 = .ok (.ifCond .ne 5, 3) := by decide +kernel
theorem d7_15 : decode prog_39_method_2_code 15 = .ok (.aload_n 0, 1) := by decide +kernel
theorem d7_16 : decode prog_39_method_2_code 16 = .ok (.getfield 20, 3) := by decide +kernel
theorem d7_19 : decode prog_39_method_2_code 19 = .ok (.ldc2_w 24, 3) := by decide +kernel
theorem d7_22 : decode prog_39_method_2_code 22 = .ok (.lxor, 1) := by decide +kernel
theorem d7_23 : decode prog_39_method_2_code 23 = .ok (.invokestatic 26, 3) := by decide +kernel
theorem d7_26 : decode prog_39_method_2_code 26 = .ok (.istore_n 3, 1) := by decide +kernel
theorem d7_27 : decode prog_39_method_2_code 27 = .ok (.iload_n 3, 1) := by decide +kernel
theorem d7_28 : decode prog_39_method_2_code 28 = .ok (.aload_n 0, 1) := by decide +kernel
theorem d7_29 : decode prog_39_method_2_code 29 = .ok (.getfield 16, 3) := by decide +kernel
theorem d7_32 : decode prog_39_method_2_code 32 = .ok (.if_icmp .ge 32, 3) := by decide +kernel
theorem d7_35 : decode prog_39_method_2_code 35 = .ok (.aload_n 0, 1) := by decide +kernel
theorem d7_36 : decode prog_39_method_2_code 36 = .ok (.dup, 1) := by decide +kernel
theorem d7_37 : decode prog_39_method_2_code 37 = .ok (.getfield 20, 3) := by decide +kernel
theorem d7_40 : decode prog_39_method_2_code 40 = .ok (.iload_n 3, 1) := by decide +kernel
theorem d7_41 : decode prog_39_method_2_code 41 = .ok (.iconst 1, 1) := by decide +kernel
theorem d7_42 : decode prog_39_method_2_code 42 = .ok (.iadd, 1) := by decide +kernel
theorem d7_43 : decode prog_39_method_2_code 43 = .ok (.lushr, 1) := by decide +kernel
theorem d7_44 : decode prog_39_method_2_code 44 = .ok (.putfield 20, 3) := by decide +kernel
theorem d7_47 : decode prog_39_method_2_code 47 = .ok (.aload_n 0, 1) := by decide +kernel
theorem d7_48 : decode prog_39_method_2_code 48 = .ok (.dup, 1) := by decide +kernel
theorem d7_49 : decode prog_39_method_2_code 49 = .ok (.getfield 16, 3) := by decide +kernel
theorem d7_52 : decode prog_39_method_2_code 52 = .ok (.iload_n 3, 1) := by decide +kernel
theorem d7_53 : decode prog_39_method_2_code 53 = .ok (.iconst 1, 1) := by decide +kernel
theorem d7_54 : decode prog_39_method_2_code 54 = .ok (.iadd, 1) := by decide +kernel
theorem d7_55 : decode prog_39_method_2_code 55 = .ok (.isub, 1) := by decide +kernel
theorem d7_56 : decode prog_39_method_2_code 56 = .ok (.putfield 16, 3) := by decide +kernel
theorem d7_59 : decode prog_39_method_2_code 59 = .ok (.lload_n 1, 1) := by decide +kernel
theorem d7_60 : decode prog_39_method_2_code 60 = .ok (.iload_n 3, 1) := by decide +kernel
theorem d7_61 : decode prog_39_method_2_code 61 = .ok (.i2l, 1) := by decide +kernel
theorem d7_62 : decode prog_39_method_2_code 62 = .ok (.ladd, 1) := by decide +kernel
theorem d7_64 : decode prog_39_method_2_code 64 = .ok (.lload_n 1, 1) := by decide +kernel
theorem d7_65 : decode prog_39_method_2_code 65 = .ok (.aload_n 0, 1) := by decide +kernel
theorem d7_66 : decode prog_39_method_2_code 66 = .ok (.getfield 16, 3) := by decide +kernel
theorem d7_69 : decode prog_39_method_2_code 69 = .ok (.i2l, 1) := by decide +kernel
theorem d7_70 : decode prog_39_method_2_code 70 = .ok (.ladd, 1) := by decide +kernel
theorem d7_71 : decode prog_39_method_2_code 71 = .ok (.lstore_n 1, 1) := by decide +kernel
theorem d7_72 : decode prog_39_method_2_code 72 = .ok (.aload_n 0, 1) := by decide +kernel
theorem d7_73 : decode prog_39_method_2_code 73 = .ok (.lconst 0, 1) := by decide +kernel
theorem d7_74 : decode prog_39_method_2_code 74 = .ok (.putfield 20, 3) := by decide +kernel
theorem d7_77 : decode prog_39_method_2_code 77 = .ok (.aload_n 0, 1) := by decide +kernel
theorem d7_78 : decode prog_39_method_2_code 78 = .ok (.iconst 0, 1) := by decide +kernel
theorem d7_79 : decode prog_39_method_2_code 79 = .ok (.putfield 16, 3) := by decide +kernel
theorem d7_82 : decode prog_39_method_2_code 82 = .ok (.goto (-80), 3) := by decide +kernel
set_option maxRecDepth 65536 in
set_option maxHeartbeats 40000000 in
theorem own_unary {p : Program} {l : Launch} {e : Env} {s : State} {m : MethodId} {args : Array Value} {below : List Frame} {meth : Method} {c : Code} {Z : State} {a0 : Array Value} {h0 : Heap} {n0 : Nat} (r0 : Addr) (rd : Addr) (f : Nat → Int32) (D : Nat) (PE : Nat) (z : Int64) (hx : p.tables.exec = Jvm.exec) (hZ : Z.Warmed39 s.vm) (hw : ∀ d ∈ tables_1, d.before a0 Z = true) (hby : c.code = prog_39_method_2_code) (hml : c.maxLocals = 4) (hown : s.vm.findClass "com/example/canonic/canonic/RiceCode$Bits" = some m.cls) (hg : n0 ≤ r0) (hne : r0 ≠ rd) (hf : own_bytes D f) (hPE192 : PE ≤ 192) :
    ∀ (k : Nat) (T : State) (locs : List Loc) (h : Heap) (nx : Int32) (bf : Int64) (bd : Int32) (on : Int64) (sl : Slot) (P : Nat) (q : Nat), Stand p l e ({ frames := 2, cells := 0, slots := 0, locals := 40 } : Room) s m args below meth c T locs 0 0 → Fr n0 locs → T.heap = h → n0 ≤ h.size → Keep h0 h [r0] → Exa Z h r0 "com/example/canonic/canonic/RiceCode$Bits" → Fld Z h r0 "com/example/canonic/canonic/RiceCode$Bits" "data" "[B" (.ref rd) → Fld Z h r0 "com/example/canonic/canonic/RiceCode$Bits" "next" "I" (.int nx) → Fld Z h r0 "com/example/canonic/canonic/RiceCode$Bits" "buffer" "J" (.long bf) → Fld Z h r0 "com/example/canonic/canonic/RiceCode$Bits" "buffered" "I" (.int bd) → own_AI Z h rd .byte 24 f → (sl = .unset ∨ ∃ w, sl = .val w ∧ w.category = 1) → own_BI D P nx bf bd → D / 2 ^ P % 2 ^ (q + 1) = 2 ^ q - 1 → P + q + 1 = PE → on.toBitVec.toNat + q = z.toBitVec.toNat → q < k → own_Run p e below (T.setTop (mkF m 2 #[.val (.ref r0), .val (.long on), .second, sl] [])) (fun B => ∃ (T' : State) (locs' : List Loc) (h' : Heap) (nx' : Int32) (bf' : Int64) (bd' : Int32) (on' : Int64) (sl' : Slot), B = T'.setTop (mkF m 63 #[.val (.ref r0), .val (.long on'), .second, sl'] [(.long z)]) ∧ Stand p l e ({ frames := 2, cells := 0, slots := 0, locals := 40 } : Room) s m args below meth c T' locs' 0 0 ∧ Fr n0 locs' ∧ T'.heap = h' ∧ n0 ≤ h'.size ∧ Keep h0 h' [r0] ∧ Exa Z h' r0 "com/example/canonic/canonic/RiceCode$Bits" ∧ Fld Z h' r0 "com/example/canonic/canonic/RiceCode$Bits" "data" "[B" (.ref rd) ∧ Fld Z h' r0 "com/example/canonic/canonic/RiceCode$Bits" "next" "I" (.int nx') ∧ Fld Z h' r0 "com/example/canonic/canonic/RiceCode$Bits" "buffer" "J" (.long bf') ∧ Fld Z h' r0 "com/example/canonic/canonic/RiceCode$Bits" "buffered" "I" (.int bd') ∧ own_AI Z h' rd .byte 24 f ∧ own_BI D PE nx' bf' bd') := by
  intro k
  induction k with
  | zero =>
    intro T locs h nx bf bd on sl P q X0 N0 e0 Z0 K0 Ft0 Ft1 Ft2 Ft3 Ft4 Ft5 hsl hI hq hPE hon hk
    exact absurd hk (Nat.not_lt_zero _)
  | succ k ih =>
    intro T locs h nx bf bd on sl P q X0 N0 e0 Z0 K0 Ft0 Ft1 Ft2 Ft3 Ft4 Ft5 hsl hI hq hPE hon hk
    obtain ⟨cq101, q101, q101'⟩ := Ft0.cell
    obtain ⟨_, _, ⟨T101, L101, k101, n101⟩, -, X101, ⟨Lc101, hQ101, l101, y101, z101⟩, st101⟩ := X0.privateBack hx (y := (⟨"com/example/canonic/canonic/RiceCode$Bits", "refill", "()V"⟩ : MethodName)) hown (mvT hZ (hw _ (List.mem_of_getElem? (i := 39) rfl))) (mvT hZ (hw _ (List.mem_of_getElem? (i := 40) rfl))) (own_selPriv (mvT hZ (hw _ (List.mem_of_getElem? (i := 24) rfl))) (mvT hZ (hw _ (List.mem_of_getElem? (i := 40) rfl))) (Cond.privateMethod_at (mvP hZ (hw _ (List.mem_of_getElem? (i := 41) rfl)) (args := #[]))) (by decide)) (Cond.privateMethod_at (mvP hZ (hw _ (List.mem_of_getElem? (i := 41) rfl)) (args := #[]))) (mvT hZ (hw _ (List.mem_of_getElem? (i := 42) rfl))) (by decide) (backOf (W := 0) (rmrf l Z a0 hw [] r0 rd f D P nx bf bd h n0 Z0 Ft0 Ft1 Ft2 Ft3 Ft4 Ft5 hne hg (hf : own_bytes D f) (hI : own_BI D P nx bf bd)) hZ (hw _ (List.mem_of_getElem? (i := 42) rfl)) (hw _ (List.mem_of_getElem? (i := 25) rfl)) (by decide) (by decide)) (g := (mkF m 3 #[.val (.ref r0), .val (.long on), .second, sl] [(.ref r0)])) rfl (by rw [hml]; rfl) (Steps.refl _) (a := r0) (by rw [e0]; exact q101) q101' (argsL := []) (rest := []) (lenOf pd5 rfl) rfl (by show 2 * 0 + _ ≤ _; exact Nat.le_of_eq rfl) (hb hby d7_3) (fun _ _ => ⟨rfl, e0, (by decide : 0 + 0 ≤ _), (by decide : 0 + 0 ≤ _)⟩)
    dsimp only [Pt.U, Pt.locs, Pt.cells, Pt.slots] at X101 l101 y101 z101 st101 hQ101
    subst l101 y101 z101
    obtain ⟨b101_0, b101_1, b101_2, rfl, N101q, K101q, F101_0, F101_1, F101_2, F101_3, F101_4, F101_5, F101_6⟩ := hQ101
    have F102 := Ft0.keep K101q
    have F103 := Ft5.keep K101q (ninS (Ne.symm hne) nin0)
    have Z104 : n0 ≤ T101.heap.size := Nat.le_trans Z0 K101q.1
    have K105 : Keep h0 T101.heap [r0] := K0.trans K101q (allS (Or.inl (List.mem_of_getElem? (i := 0) rfl)) all0)
    have N101 := Fr.app N0 N101q
    obtain ⟨T106, X106, e106, st106⟩ := getF X101 hx hZ hown (host := "") (Or.inl (hw _ (List.mem_of_getElem? (i := 43) rfl))) Via.refl (rfl : T101.heap = T101.heap) F101_4 (g := (mkF m 7 #[.val (.ref r0), .val (.long on), .second, sl] [(.ref r0)])) rfl rfl (hb hby d7_7)
    obtain ⟨T107, X107, e107, st107⟩ := getF X106 hx hZ hown (host := "") (Or.inl (hw _ (List.mem_of_getElem? (i := 47) rfl))) Via.refl e106 F101_3 (g := (mkF m 16 #[.val (.ref r0), .val (.long on), .second, sl] [(.ref r0)])) rfl rfl (hb hby d7_16)
    obtain ⟨v1, hv1⟩ : ∃ z : Int64, z = (b101_1 ^^^ (-1 : Int64)) := ⟨_, rfl⟩
    obtain ⟨_, _, ⟨T108, L108, k108, n108⟩, -, X108, ⟨Lc108, hQ108, l108, y108, z108⟩, st108⟩ := Jvm.LawKit.callS X107 hx (y := (⟨"java/lang/Long", "numberOfTrailingZeros", "(J)I"⟩ : MethodName)) hown (mvT hZ (hw _ (List.mem_of_getElem? (i := 51) rfl))) (mvT hZ (hw _ (List.mem_of_getElem? (i := 52) rfl))) (mvT hZ (hw _ (List.mem_of_getElem? (i := 53) rfl))) (mvT hZ (hw _ (List.mem_of_getElem? (i := 54) rfl))) (by decide) (backOf (W := 0) (rmnL l Z a0 hw [] v1 (T101.heap) n0 Z104 ) hZ (hw _ (List.mem_of_getElem? (i := 54) rfl)) (hw _ (List.mem_of_getElem? (i := 53) rfl)) (by decide) (by decide)) (g := (mkF m 23 #[.val (.ref r0), .val (.long on), .second, sl] [(.long v1)])) rfl (by rw [hml]; rfl) (argsL := [(.long v1)]) (rest := []) (lenOf pd6 rfl) rfl (by show 2 * 0 + _ ≤ _; exact Nat.le_of_eq rfl) (hb hby d7_23) (fun _ _ => ⟨rfl, e107, (by decide : 0 + 0 ≤ _), (by decide : 0 + 0 ≤ _)⟩)
    dsimp only [Pt.U, Pt.locs, Pt.cells, Pt.slots] at X108 l108 y108 z108 st108 hQ108
    subst l108 y108 z108
    obtain ⟨rfl, N108q, e108⟩ := hQ108
    have N108 := Fr.app N101 N108q
    obtain ⟨v2, hv2⟩ : ∃ z : Int32, z = (own_rnL v1) := ⟨_, rfl⟩
    obtain ⟨T109, X109, e109, st109⟩ := getF X108 hx hZ hown (host := "") (Or.inl (hw _ (List.mem_of_getElem? (i := 43) rfl))) Via.refl e108 F101_4 (g := (mkF m 29 #[.val (.ref r0), .val (.long on), .second, .val (.int v2)] [(.ref r0), (.int v2)])) rfl rfl (hb hby d7_29)
    have hgo110 : ∀ t, Steps p.tables e below (T109.setTop (mkF m 32 #[.val (.ref r0), .val (.long on), .second, .val (.int v2)] [(.int b101_2), (.int v2)])) t → Steps p.tables e below (T.setTop (mkF m 2 #[.val (.ref r0), .val (.long on), .second, sl] [])) t := by
      intro t kt
      show Steps p.tables e below (T.setTop (mkF m 2 #[.val (.ref r0), .val (.long on), .second, sl] [])) _
      refine XS.aloadN X0.here hx rfl (hb hby d7_2) rfl rfl ?_
      show Steps p.tables e below (T.setTop (mkF m 3 #[.val (.ref r0), .val (.long on), .second, sl] [(.ref r0)])) _
      refine st101.trans ?_
      show Steps p.tables e below (T101.setTop (mkF m 6 #[.val (.ref r0), .val (.long on), .second, sl] [])) _
      refine XS.aloadN X101.here hx rfl (hb hby d7_6) rfl rfl ?_
      show Steps p.tables e below (T101.setTop (mkF m 7 #[.val (.ref r0), .val (.long on), .second, sl] [(.ref r0)])) _
      refine st106 _ ?_
      show Steps p.tables e below (T106.setTop (mkF m 10 #[.val (.ref r0), .val (.long on), .second, sl] [(.int b101_2)])) _
      refine XS.ifYes X106.here hx rfl (pc0 := 10) (pc' := 15) rfl (hb hby d7_10) rfl ((if0 _ _).trans (feq (own_nz0 (own_enough (cn := 1) F101_5 F101_6 (by omega) (by omega)))).2) (by decide) (by decide) ?_
      show Steps p.tables e below (T106.setTop (mkF m 15 #[.val (.ref r0), .val (.long on), .second, sl] [])) _
      refine XS.aloadN X106.here hx rfl (hb hby d7_15) rfl rfl ?_
      show Steps p.tables e below (T106.setTop (mkF m 16 #[.val (.ref r0), .val (.long on), .second, sl] [(.ref r0)])) _
      refine st107 _ ?_
      show Steps p.tables e below (T107.setTop (mkF m 19 #[.val (.ref r0), .val (.long on), .second, sl] [(.long b101_1)])) _
      refine X107.ldc2Long hx hown (mvT hZ (hw _ (List.mem_of_getElem? (i := 50) rfl))) (g := (mkF m 19 #[.val (.ref r0), .val (.long on), .second, sl] [(.long b101_1)])) rfl (hb hby d7_19) _ ?_
      show Steps p.tables e below (T107.setTop (mkF m 22 #[.val (.ref r0), .val (.long on), .second, sl] [(.long (-1 : Int64)), (.long b101_1)])) _
      refine XS.lxor X107.here hx rfl (hb hby d7_22) rfl ?_
      show Steps p.tables e below (T107.setTop (mkF m 23 #[.val (.ref r0), .val (.long on), .second, sl] [(.long (b101_1 ^^^ (-1 : Int64)))])) _
      rw [← hv1]
      show Steps p.tables e below (T107.setTop (mkF m 23 #[.val (.ref r0), .val (.long on), .second, sl] [(.long v1)])) _
      refine st108 _ ?_
      show Steps p.tables e below (T108.setTop (mkF m 26 #[.val (.ref r0), .val (.long on), .second, sl] [(.int (own_rnL v1))])) _
      rw [← hv2]
      show Steps p.tables e below (T108.setTop (mkF m 26 #[.val (.ref r0), .val (.long on), .second, sl] [(.int v2)])) _
      refine XS.istoreNS X108.here hx rfl (hb hby d7_26) rfl (o := sl) rfl hsl ?_
      show Steps p.tables e below (T108.setTop (mkF m 27 #[.val (.ref r0), .val (.long on), .second, .val (.int v2)] [])) _
      refine XS.iloadN X108.here hx rfl (hb hby d7_27) rfl ?_
      refine XS.aloadN X108.here hx rfl (hb hby d7_28) rfl rfl ?_
      show Steps p.tables e below (T108.setTop (mkF m 29 #[.val (.ref r0), .val (.long on), .second, .val (.int v2)] [(.ref r0), (.int v2)])) _
      refine st109 _ ?_
      exact kt
    refine own_run hgo110 ?_
    by_cases hc32_3 : v2 < b101_2
    · obtain ⟨T111, X111, e111, st111⟩ := getF X109 hx hZ hown (host := "") (Or.inl (hw _ (List.mem_of_getElem? (i := 47) rfl))) Via.refl e109 F101_3 (g := (mkF m 37 #[.val (.ref r0), .val (.long on), .second, .val (.int v2)] [(.ref r0), (.ref r0)])) rfl rfl (hb hby d7_37)
      obtain ⟨v4, hv4⟩ : ∃ z : Int64, z = ((b101_1.toUInt64 >>> ((v2 + (1 : Int32)) &&& 0x3f).toInt64.toUInt64).toInt64) := ⟨_, rfl⟩
      obtain ⟨T112, h112, X112, e112, W112, st112⟩ := putF X111 hx hZ hown (host := "") (Or.inl (hw _ (List.mem_of_getElem? (i := 47) rfl))) Via.refl e111 F101_3 F101_0 (Or.inl (hw _ (List.mem_of_getElem? (i := 48) rfl))) (hw _ (List.mem_of_getElem? (i := 24) rfl)) (ty := .long) (by decide) rfl rfl (g := (mkF m 44 #[.val (.ref r0), .val (.long on), .second, .val (.int v2)] [(.long v4), (.ref r0)])) rfl rfl (hb hby d7_44)
      have F113 := F101_0.wr W112
      have F114 := F103.other W112 (Ne.symm hne)
      have F115 := F101_1.other W112 (Or.inr (slot_ne (Or.inr (hw _ (List.mem_of_getElem? (i := 33) rfl))) (Or.inl (hw _ (List.mem_of_getElem? (i := 48) rfl))) (by decide) (t := (.array .byte)) (t' := .long) (by decide) (by decide)))
      have F116 := F101_2.other W112 (Or.inr (slot_ne (Or.inl (hw _ (List.mem_of_getElem? (i := 46) rfl))) (Or.inl (hw _ (List.mem_of_getElem? (i := 48) rfl))) (by decide) (t := .int) (t' := .long) (by decide) (by decide)))
      have F117 := F101_3.same W112
      have F118 := F101_4.other W112 (Or.inr (slot_ne (Or.inl (hw _ (List.mem_of_getElem? (i := 44) rfl))) (Or.inl (hw _ (List.mem_of_getElem? (i := 48) rfl))) (by decide) (t := .int) (t' := .long) (by decide) (by decide)))
      have Z119 : n0 ≤ h112.size := Nat.le_trans Z104 (Keep.of_wr W112).1
      have K120 : Keep h0 h112 [r0] := K105.wr W112 (Or.inl (List.mem_of_getElem? (i := 0) rfl))
      have N121 := Fr.snoc X112 N108 hg
      obtain ⟨T122, X122, e122, st122⟩ := getF X112 hx hZ hown (host := "") (Or.inl (hw _ (List.mem_of_getElem? (i := 43) rfl))) Via.refl e112 F118 (g := (mkF m 49 #[.val (.ref r0), .val (.long on), .second, .val (.int v2)] [(.ref r0), (.ref r0)])) rfl rfl (hb hby d7_49)
      obtain ⟨v5, hv5⟩ : ∃ z : Int32, z = (b101_2 - (v2 + (1 : Int32))) := ⟨_, rfl⟩
      obtain ⟨T123, h123, X123, e123, W123, st123⟩ := putF X122 hx hZ hown (host := "") (Or.inl (hw _ (List.mem_of_getElem? (i := 43) rfl))) Via.refl e122 F118 F113 (Or.inl (hw _ (List.mem_of_getElem? (i := 44) rfl))) (hw _ (List.mem_of_getElem? (i := 24) rfl)) (ty := .int) (by decide) rfl rfl (g := (mkF m 56 #[.val (.ref r0), .val (.long on), .second, .val (.int v2)] [(.int v5), (.ref r0)])) rfl rfl (hb hby d7_56)
      have F124 := F113.wr W123
      have F125 := F114.other W123 (Ne.symm hne)
      have F126 := F115.other W123 (Or.inr (slot_ne (Or.inr (hw _ (List.mem_of_getElem? (i := 33) rfl))) (Or.inl (hw _ (List.mem_of_getElem? (i := 44) rfl))) (by decide) (t := (.array .byte)) (t' := .int) (by decide) (by decide)))
      have F127 := F116.other W123 (Or.inr (slot_ne (Or.inl (hw _ (List.mem_of_getElem? (i := 46) rfl))) (Or.inl (hw _ (List.mem_of_getElem? (i := 44) rfl))) (by decide) (t := .int) (t' := .int) (by decide) (by decide)))
      have F128 := F117.other W123 (Or.inr (slot_ne (Or.inl (hw _ (List.mem_of_getElem? (i := 48) rfl))) (Or.inl (hw _ (List.mem_of_getElem? (i := 44) rfl))) (by decide) (t := .long) (t' := .int) (by decide) (by decide)))
      have F129 := F118.same W123
      have Z130 : n0 ≤ h123.size := Nat.le_trans Z119 (Keep.of_wr W123).1
      have K131 : Keep h0 h123 [r0] := K120.wr W123 (Or.inl (List.mem_of_getElem? (i := 0) rfl))
      have N132 := Fr.snoc X123 N121 hg
      have hgo133 : ∀ t, Steps p.tables e below (T123.setTop (mkF m 63 #[.val (.ref r0), .val (.long on), .second, .val (.int v2)] [(.long (on + (v2.toInt64)))])) t → Steps p.tables e below (T109.setTop (mkF m 32 #[.val (.ref r0), .val (.long on), .second, .val (.int v2)] [(.int b101_2), (.int v2)])) t := by
        intro t kt
        show Steps p.tables e below (T109.setTop (mkF m 32 #[.val (.ref r0), .val (.long on), .second, .val (.int v2)] [(.int b101_2), (.int v2)])) _
        refine XS.icmpNo X109.here hx rfl (hb hby d7_32) rfl (tlt hc32_3).2.1 ?_
        show Steps p.tables e below (T109.setTop (mkF m 35 #[.val (.ref r0), .val (.long on), .second, .val (.int v2)] [])) _
        refine XS.aloadN X109.here hx rfl (hb hby d7_35) rfl rfl ?_
        refine XS.dup X109.here hx rfl (hb hby d7_36) rfl rfl ?_
        show Steps p.tables e below (T109.setTop (mkF m 37 #[.val (.ref r0), .val (.long on), .second, .val (.int v2)] [(.ref r0), (.ref r0)])) _
        refine st111 _ ?_
        show Steps p.tables e below (T111.setTop (mkF m 40 #[.val (.ref r0), .val (.long on), .second, .val (.int v2)] [(.long b101_1), (.ref r0)])) _
        refine XS.iloadN X111.here hx rfl (hb hby d7_40) rfl ?_
        refine XS.iconst X111.here hx rfl (hb hby d7_41) ?_
        refine XS.iadd X111.here hx rfl (hb hby d7_42) rfl ?_
        show Steps p.tables e below (T111.setTop (mkF m 43 #[.val (.ref r0), .val (.long on), .second, .val (.int v2)] [(.int (v2 + (1 : Int32))), (.long b101_1), (.ref r0)])) _
        refine XS.lushr X111.here hx rfl (hb hby d7_43) rfl ?_
        show Steps p.tables e below (T111.setTop (mkF m 44 #[.val (.ref r0), .val (.long on), .second, .val (.int v2)] [(.long ((b101_1.toUInt64 >>> ((v2 + (1 : Int32)) &&& 0x3f).toInt64.toUInt64).toInt64)), (.ref r0)])) _
        rw [← hv4]
        refine st112 _ ?_
        show Steps p.tables e below (T112.setTop (mkF m 47 #[.val (.ref r0), .val (.long on), .second, .val (.int v2)] [])) _
        refine XS.aloadN X112.here hx rfl (hb hby d7_47) rfl rfl ?_
        refine XS.dup X112.here hx rfl (hb hby d7_48) rfl rfl ?_
        show Steps p.tables e below (T112.setTop (mkF m 49 #[.val (.ref r0), .val (.long on), .second, .val (.int v2)] [(.ref r0), (.ref r0)])) _
        refine st122 _ ?_
        show Steps p.tables e below (T122.setTop (mkF m 52 #[.val (.ref r0), .val (.long on), .second, .val (.int v2)] [(.int b101_2), (.ref r0)])) _
        refine XS.iloadN X122.here hx rfl (hb hby d7_52) rfl ?_
        refine XS.iconst X122.here hx rfl (hb hby d7_53) ?_
        refine XS.iadd X122.here hx rfl (hb hby d7_54) rfl ?_
        show Steps p.tables e below (T122.setTop (mkF m 55 #[.val (.ref r0), .val (.long on), .second, .val (.int v2)] [(.int (v2 + (1 : Int32))), (.int b101_2), (.ref r0)])) _
        refine XS.isub X122.here hx rfl (hb hby d7_55) rfl ?_
        show Steps p.tables e below (T122.setTop (mkF m 56 #[.val (.ref r0), .val (.long on), .second, .val (.int v2)] [(.int (b101_2 - (v2 + (1 : Int32)))), (.ref r0)])) _
        rw [← hv5]
        refine st123 _ ?_
        show Steps p.tables e below (T123.setTop (mkF m 59 #[.val (.ref r0), .val (.long on), .second, .val (.int v2)] [])) _
        refine XS.lloadN X123.here hx rfl (hb hby d7_59) rfl ?_
        refine XS.iloadN X123.here hx rfl (hb hby d7_60) rfl ?_
        refine XS.i2l X123.here hx rfl (hb hby d7_61) rfl ?_
        show Steps p.tables e below (T123.setTop (mkF m 62 #[.val (.ref r0), .val (.long on), .second, .val (.int v2)] [(.long (v2.toInt64)), (.long on)])) _
        refine XS.ladd X123.here hx rfl (hb hby d7_62) rfl ?_
        exact kt
      refine own_run hgo133 ?_
      obtain ⟨uA1, uA2⟩ := own_unA F101_5 hq (by rw [hv2, hv1]) hc32_3
      have uD := own_BIdrop (cn := q + 1) F101_5 (own_add1 uA1 (own_q64 F101_5 uA2)) uA2 hv4 hv5
      rw [← Nat.add_assoc, hPE] at uD
      rw [show (on + (v2.toInt64)) = z from own_unZ uA1 hon]
      exact ⟨_, ⟨_, _, _, b101_0, v4, v5, _, _, rfl, X123, N132, e123, Z130, K131, F124, F126, F127, F128, F129, F125, uD⟩, fun t kt => kt⟩
    · obtain ⟨T134, X134, e134, st134⟩ := getF X109 hx hZ hown (host := "") (Or.inl (hw _ (List.mem_of_getElem? (i := 43) rfl))) Via.refl e109 F101_4 (g := (mkF m 66 #[.val (.ref r0), .val (.long on), .second, .val (.int v2)] [(.ref r0), (.long on)])) rfl rfl (hb hby d7_66)
      obtain ⟨v6, hv6⟩ : ∃ z : Int64, z = (on + (b101_2.toInt64)) := ⟨_, rfl⟩
      obtain ⟨T135, h135, X135, e135, W135, st135⟩ := putF X134 hx hZ hown (host := "") (Or.inl (hw _ (List.mem_of_getElem? (i := 47) rfl))) Via.refl e134 F101_3 F101_0 (Or.inl (hw _ (List.mem_of_getElem? (i := 48) rfl))) (hw _ (List.mem_of_getElem? (i := 24) rfl)) (ty := .long) (by decide) rfl rfl (g := (mkF m 74 #[.val (.ref r0), .val (.long v6), .second, .val (.int v2)] [(.long (0 : Int64)), (.ref r0)])) rfl rfl (hb hby d7_74)
      have F136 := F101_0.wr W135
      have F137 := F103.other W135 (Ne.symm hne)
      have F138 := F101_1.other W135 (Or.inr (slot_ne (Or.inr (hw _ (List.mem_of_getElem? (i := 33) rfl))) (Or.inl (hw _ (List.mem_of_getElem? (i := 48) rfl))) (by decide) (t := (.array .byte)) (t' := .long) (by decide) (by decide)))
      have F139 := F101_2.other W135 (Or.inr (slot_ne (Or.inl (hw _ (List.mem_of_getElem? (i := 46) rfl))) (Or.inl (hw _ (List.mem_of_getElem? (i := 48) rfl))) (by decide) (t := .int) (t' := .long) (by decide) (by decide)))
      have F140 := F101_3.same W135
      have F141 := F101_4.other W135 (Or.inr (slot_ne (Or.inl (hw _ (List.mem_of_getElem? (i := 44) rfl))) (Or.inl (hw _ (List.mem_of_getElem? (i := 48) rfl))) (by decide) (t := .int) (t' := .long) (by decide) (by decide)))
      have Z142 : n0 ≤ h135.size := Nat.le_trans Z104 (Keep.of_wr W135).1
      have K143 : Keep h0 h135 [r0] := K105.wr W135 (Or.inl (List.mem_of_getElem? (i := 0) rfl))
      have N144 := Fr.snoc X135 N108 hg
      obtain ⟨T145, h145, X145, e145, W145, st145⟩ := putF X135 hx hZ hown (host := "") (Or.inl (hw _ (List.mem_of_getElem? (i := 43) rfl))) Via.refl e135 F141 F136 (Or.inl (hw _ (List.mem_of_getElem? (i := 44) rfl))) (hw _ (List.mem_of_getElem? (i := 24) rfl)) (ty := .int) (by decide) rfl rfl (g := (mkF m 79 #[.val (.ref r0), .val (.long v6), .second, .val (.int v2)] [(.int (0 : Int32)), (.ref r0)])) rfl rfl (hb hby d7_79)
      have F146 := F136.wr W145
      have F147 := F137.other W145 (Ne.symm hne)
      have F148 := F138.other W145 (Or.inr (slot_ne (Or.inr (hw _ (List.mem_of_getElem? (i := 33) rfl))) (Or.inl (hw _ (List.mem_of_getElem? (i := 44) rfl))) (by decide) (t := (.array .byte)) (t' := .int) (by decide) (by decide)))
      have F149 := F139.other W145 (Or.inr (slot_ne (Or.inl (hw _ (List.mem_of_getElem? (i := 46) rfl))) (Or.inl (hw _ (List.mem_of_getElem? (i := 44) rfl))) (by decide) (t := .int) (t' := .int) (by decide) (by decide)))
      have F150 := F140.other W145 (Or.inr (slot_ne (Or.inl (hw _ (List.mem_of_getElem? (i := 48) rfl))) (Or.inl (hw _ (List.mem_of_getElem? (i := 44) rfl))) (by decide) (t := .long) (t' := .int) (by decide) (by decide)))
      have F151 := F141.same W145
      have Z152 : n0 ≤ h145.size := Nat.le_trans Z142 (Keep.of_wr W145).1
      have K153 : Keep h0 h145 [r0] := K143.wr W145 (Or.inl (List.mem_of_getElem? (i := 0) rfl))
      have N154 := Fr.snoc X145 N144 hg
      have hgo155 : ∀ t, Steps p.tables e below (T145.setTop (mkF m 2 #[.val (.ref r0), .val (.long v6), .second, .val (.int v2)] [])) t → Steps p.tables e below (T109.setTop (mkF m 32 #[.val (.ref r0), .val (.long on), .second, .val (.int v2)] [(.int b101_2), (.int v2)])) t := by
        intro t kt
        show Steps p.tables e below (T109.setTop (mkF m 32 #[.val (.ref r0), .val (.long on), .second, .val (.int v2)] [(.int b101_2), (.int v2)])) _
        refine XS.icmpYes X109.here hx rfl (pc0 := 32) (pc' := 64) rfl (hb hby d7_32) rfl (flt hc32_3).2.1 (by decide) (by decide) ?_
        show Steps p.tables e below (T109.setTop (mkF m 64 #[.val (.ref r0), .val (.long on), .second, .val (.int v2)] [])) _
        refine XS.lloadN X109.here hx rfl (hb hby d7_64) rfl ?_
        refine XS.aloadN X109.here hx rfl (hb hby d7_65) rfl rfl ?_
        show Steps p.tables e below (T109.setTop (mkF m 66 #[.val (.ref r0), .val (.long on), .second, .val (.int v2)] [(.ref r0), (.long on)])) _
        refine st134 _ ?_
        show Steps p.tables e below (T134.setTop (mkF m 69 #[.val (.ref r0), .val (.long on), .second, .val (.int v2)] [(.int b101_2), (.long on)])) _
        refine XS.i2l X134.here hx rfl (hb hby d7_69) rfl ?_
        show Steps p.tables e below (T134.setTop (mkF m 70 #[.val (.ref r0), .val (.long on), .second, .val (.int v2)] [(.long (b101_2.toInt64)), (.long on)])) _
        refine XS.ladd X134.here hx rfl (hb hby d7_70) rfl ?_
        show Steps p.tables e below (T134.setTop (mkF m 71 #[.val (.ref r0), .val (.long on), .second, .val (.int v2)] [(.long (on + (b101_2.toInt64)))])) _
        rw [← hv6]
        show Steps p.tables e below (T134.setTop (mkF m 71 #[.val (.ref r0), .val (.long on), .second, .val (.int v2)] [(.long v6)])) _
        refine XS.lstoreN X134.here hx rfl (hb hby d7_71) rfl (l' := #[.val (.ref r0), .val (.long v6), .second, .val (.int v2)]) rfl ?_
        show Steps p.tables e below (T134.setTop (mkF m 72 #[.val (.ref r0), .val (.long v6), .second, .val (.int v2)] [])) _
        refine XS.aloadN X134.here hx rfl (hb hby d7_72) rfl rfl ?_
        refine XS.lconst X134.here hx rfl (hb hby d7_73) ?_
        show Steps p.tables e below (T134.setTop (mkF m 74 #[.val (.ref r0), .val (.long v6), .second, .val (.int v2)] [(.long (0 : Int64)), (.ref r0)])) _
        refine st135 _ ?_
        show Steps p.tables e below (T135.setTop (mkF m 77 #[.val (.ref r0), .val (.long v6), .second, .val (.int v2)] [])) _
        refine XS.aloadN X135.here hx rfl (hb hby d7_77) rfl rfl ?_
        refine XS.iconst X135.here hx rfl (hb hby d7_78) ?_
        show Steps p.tables e below (T135.setTop (mkF m 79 #[.val (.ref r0), .val (.long v6), .second, .val (.int v2)] [(.int (0 : Int32)), (.ref r0)])) _
        refine st145 _ ?_
        show Steps p.tables e below (T145.setTop (mkF m 82 #[.val (.ref r0), .val (.long v6), .second, .val (.int v2)] [])) _
        refine XS.goto X145.here hx rfl (pc0 := 82) (pc' := 2) rfl (hb hby d7_82) (by decide) (by decide) ?_
        exact kt
      refine own_run hgo155 ?_
      obtain ⟨uB1, uB2, uB3⟩ := own_unB F101_5 hq (by rw [hv2, hv1]) hc32_3
      have uE := own_enough (cn := 1) F101_5 F101_6 (by omega) (by omega)
      exact ih _ _ _ b101_0 (0 : Int64) (0 : Int32) v6 (.val (.int v2)) (P + b101_2.toInt.toNat) (q - b101_2.toInt.toNat) X145 N154 e145 Z152 K153 F146 F148 F149 F150 F151 F147 (Or.inr ⟨_, rfl, rfl⟩) uB3 uB2 (by omega) (own_unO (by omega) uB1 hv6 hon) (by omega)
theorem d7_0 : decode prog_39_method_2_code 0 = .ok (.lconst 0, 1) := by decide +kernel
theorem d7_1 : decode prog_39_method_2_code 1 = .ok (.lstore_n 1, 1) := by decide +kernel
theorem d7_63 : decode prog_39_method_2_code 63 = .ok (.lreturn, 1) := by decide +kernel
theorem ef_un (m : MethodId) (r0 : Addr) : entryFrame m #[(.ref r0)] 4 = mkF m 0 #[.val (.ref r0), .unset, .unset, .unset] [] := by (first | (simp [entryFrame, mkF, argsToLocals, Value.category]; done) | rfl)
def Qun (Z : State) (r0 : Addr) (rd : Addr) (f : Nat → Int32) (D : Nat) (P : Nat) (nx : Int32) (bf : Int64) (bd : Int32) (q : Nat) (z : Int64) (h0 : Heap) (n0 : Nat) (v : Option Value) (h : Heap) (L : List Loc) : Prop := ∃ x0 : Int32, ∃ x1 : Int64, ∃ x2 : Int32, v = some (.long z) ∧ Fr n0 L ∧ Keep h0 h [r0] ∧ Exa Z h r0 "com/example/canonic/canonic/RiceCode$Bits" ∧ Fld Z h r0 "com/example/canonic/canonic/RiceCode$Bits" "data" "[B" (.ref rd) ∧ Fld Z h r0 "com/example/canonic/canonic/RiceCode$Bits" "next" "I" (.int x0) ∧ Fld Z h r0 "com/example/canonic/canonic/RiceCode$Bits" "buffer" "J" (.long x1) ∧ Fld Z h r0 "com/example/canonic/canonic/RiceCode$Bits" "buffered" "I" (.int x2) ∧ own_BI D (P + q + 1) x0 x1 x2
set_option maxRecDepth 65536 in
set_option maxHeartbeats 40000000 in
theorem rmun (l : Launch) (Z : State) (a0 : Array Value) (hw : ∀ d ∈ tables_1, d.before a0 Z = true) (ws : List Jvm.Cond) (r0 : Addr) (rd : Addr) (f : Nat → Int32) (D : Nat) (P : Nat) (nx : Int32) (bf : Int64) (bd : Int32) (q : Nat) (z : Int64) (h0 : Heap) (n0 : Nat) (Z0 : n0 ≤ h0.size) (Ft0 : Exa Z h0 r0 "com/example/canonic/canonic/RiceCode$Bits") (Ft1 : Fld Z h0 r0 "com/example/canonic/canonic/RiceCode$Bits" "data" "[B" (.ref rd)) (Ft2 : Fld Z h0 r0 "com/example/canonic/canonic/RiceCode$Bits" "next" "I" (.int nx)) (Ft3 : Fld Z h0 r0 "com/example/canonic/canonic/RiceCode$Bits" "buffer" "J" (.long bf)) (Ft4 : Fld Z h0 r0 "com/example/canonic/canonic/RiceCode$Bits" "buffered" "I" (.int bd)) (Ft5 : own_AI Z h0 rd .byte 24 f) (hne : r0 ≠ rd) (hg : n0 ≤ r0) (hf : own_bytes D f) (hI : own_BI D P nx bf bd) (hq : D / 2 ^ P % 2 ^ (q + 1) = 2 ^ q - 1) (hP : P + q + 1 ≤ 192) (hz : z.toBitVec.toNat = q) :
    MetFree l (⟨"com/example/canonic/canonic/RiceCode$Bits", "unary", "()J"⟩ : MethodName) (head1 (Jvm.Cond.code (⟨"com/example/canonic/canonic/RiceCode$Bits", "unary", "()J"⟩ : MethodName) prog_39_method_2_code 4 (some .long) :: ws) ({ frames := 2, cells := 0, slots := 0, locals := 40 } : Room)) (fun a U => a = #[(.ref r0)] ∧ Z.Warmed39 U.vm ∧ U.heap = h0) (fun _ _ _ _ _ => True) (fun _ U o U' => ∃ v L, o = .returned v ∧ Qun Z r0 rd f D P nx bf bd q z h0 n0 v U'.heap L ∧ FrameEnd U o U' L ({ frames := 2, cells := 0, slots := 0, locals := 40 } : Room).cells ({ frames := 2, cells := 0, slots := 0, locals := 40 } : Room).slots) := by
  refine MetFree.of_bodySF (plainFor_of_name pn4) hisR ?_
  intro p e s m args below meth c s₁ Bd hml0 hP hK
  obtain ⟨rfl, hZ, hh⟩ := hP
  have hx := Bd.exec
  have hby := Bd.bytes
  have hml : c.maxLocals = 4 := hml0
  have hown : s.vm.findClass "com/example/canonic/canonic/RiceCode$Bits" = some m.cls := findClass_of_methodNamed Bd.named
  have hnm := (name_of_methodNamed Bd.named Bd.method).1
  have X0 : Stand p l e ({ frames := 2, cells := 0, slots := 0, locals := 40 } : Room) s m #[(.ref r0)] below meth c s₁ [] 0 0 := Stand.of_body Bd
  have e0 : s₁.heap = h0 := by rw [← hh, Bd.state]; rfl
  have N0 := Fr.nil n0
  have K0 : Keep h0 h0 [r0] := Keep.refl h0 _
  show own_Go p e below s (Qun Z r0 rd f D P nx bf bd q z h0 n0) ({ frames := 2, cells := 0, slots := 0, locals := 40 } : Room).cells ({ frames := 2, cells := 0, slots := 0, locals := 40 } : Room).slots (s₁.setTop (entryFrame m #[(.ref r0)] 4))
  refine own_go (fun t k => castTop (ef_un m r0) k) ?_
  obtain ⟨_, ⟨T1, lc1, h1, nx1, bf1, bd1, on1, sl1, rfl, X1, N1, e1, Z1, K1, E1, Fd1, Fn1, Fb1, Fc1, A1, I1⟩, stR⟩ := own_unary r0 rd f D (P + q + 1) z hx hZ hw hby hml hown hg hne hf hP (q + 1) _ _ _ nx bf bd (0 : Int64) .unset P q X0 N0 e0 Z0 K0 Ft0 Ft1 Ft2 Ft3 Ft4 Ft5 (Or.inl rfl) hI hq rfl (by rw [hz, show (0 : Int64).toBitVec.toNat = 0 from rfl, Nat.zero_add]) (Nat.lt_succ_self q)
  have hgo101 : ∀ t, Steps p.tables e below (T1.setTop (mkF m 63 #[.val (.ref r0), .val (.long on1), .second, sl1] [(.long z)])) t → Steps p.tables e below (s₁.setTop (mkF m 0 #[.val (.ref r0), .unset, .unset, .unset] [])) t := by
    intro t kt
    show Steps p.tables e below (s₁.setTop (mkF m 0 #[.val (.ref r0), .unset, .unset, .unset] [])) _
    refine XS.lconst X0.here hx rfl (hb hby d7_0) ?_
    refine XS.lstoreN X0.here hx rfl (hb hby d7_1) rfl (l' := #[.val (.ref r0), .val (.long (0 : Int64)), .second, .unset]) rfl ?_
    show Steps p.tables e below (s₁.setTop (mkF m 2 #[.val (.ref r0), .val (.long (0 : Int64)), .second, .unset] [])) _
    refine stR _ ?_
    exact kt
  refine own_go hgo101 ?_
  exact own_retJ X1 hx Bd.returns Bd.notSynchronized (hb hby d7_63) (by decide) (by decide) (by rw [e1]; exact ⟨nx1, bf1, bd1, (by rfl), N1, K1, E1, Fd1, Fn1, Fb1, Fc1, I1⟩)
theorem own_BI0 {D : Nat} : own_BI D 0 (0 : Int32) (0 : Int64) (0 : Int32) := ⟨0, 0, rfl, rfl, by omega, by omega, rfl, by rw [Nat.pow_zero, Nat.mod_one]; rfl⟩
theorem own_ynn {y : Int32} {x : Nat} (h : y.toInt = (x : Int)) : ¬ (y < (0 : Int32)) := by
  rw [Int32.lt_iff_toInt_lt, show (0 : Int32).toInt = 0 from rfl]; omega
theorem own_m98_0 (p1 : Int32) : ¬ ((((24 : Int32).toInt64) * (8 : Int64)) < (((0 : Int32).toInt64) * ((p1 + (1 : Int32)).toInt64))) := by
  rw [show ((0 : Int32).toInt64) = (0 : Int64) from rfl, Int64.zero_mul]; decide
theorem own_m98_1 {p1 : Int32} {cn : Nat} (h : p1.toInt = (cn : Int)) (h28 : cn ≤ 28) : ¬ ((((24 : Int32).toInt64) * (8 : Int64)) < (((1 : Int32).toInt64) * ((p1 + (1 : Int32)).toInt64))) := by
  have e : (p1 + (1 : Int32)).toInt = p1.toInt + 1 := by
    rw [Int32.toInt_add, show (1 : Int32).toInt = 1 from rfl]; exact Int.bmod_eq_of_le (by omega) (by omega)
  rw [Int64.lt_iff_toInt_lt, show (((24 : Int32).toInt64) * (8 : Int64)).toInt = 192 from rfl, Int64.toInt_mul, Int32.toInt_toInt64, Int32.toInt_toInt64, e, show (1 : Int32).toInt = 1 from rfl, Int.bmod_eq_of_le (by omega) (by omega)]
  omega
theorem own_m98_2 {p1 : Int32} {cn : Nat} (h : p1.toInt = (cn : Int)) (h28 : cn ≤ 28) : ¬ ((((24 : Int32).toInt64) * (8 : Int64)) < (((2 : Int32).toInt64) * ((p1 + (1 : Int32)).toInt64))) := by
  have e : (p1 + (1 : Int32)).toInt = p1.toInt + 1 := by
    rw [Int32.toInt_add, show (1 : Int32).toInt = 1 from rfl]; exact Int.bmod_eq_of_le (by omega) (by omega)
  rw [Int64.lt_iff_toInt_lt, show (((24 : Int32).toInt64) * (8 : Int64)).toInt = 192 from rfl, Int64.toInt_mul, Int32.toInt_toInt64, Int32.toInt_toInt64, e, show (2 : Int32).toInt = 2 from rfl, Int.bmod_eq_of_le (by omega) (by omega)]
  omega
theorem own_lt2 {p1 : Int32} {cn : Nat} (h : p1.toInt = (cn : Int)) (h2 : 2 ≤ cn) : ¬ (p1 < (2 : Int32)) := by
  rw [Int32.lt_iff_toInt_lt, show (2 : Int32).toInt = 2 from rfl]; omega
theorem own_lt28 {p1 : Int32} {cn : Nat} (h : p1.toInt = (cn : Int)) (h2 : cn ≤ 28) : ¬ ((28 : Int32) < p1) := by
  rw [Int32.lt_iff_toInt_lt, show (28 : Int32).toInt = 28 from rfl]; omega
theorem pd7 : parseMethodDescriptor "([B)V" = some ⟨[(.array .byte)], none⟩ := by decide +kernel
theorem d4_0 : decode prog_38_method_2_code 0 = .ok (.iload_n 3, 1) := by decide +kernel
theorem d4_1 : decode prog_38_method_2_code 1 = .ok (.ifCond .lt 9, 3) := by decide +kernel
theorem d4_4 : decode prog_38_method_2_code 4 = .ok (.iload_n 3, 1) := by decide +kernel
theorem d4_5 : decode prog_38_method_2_code 5 = .ok (.ldc 11, 2) := by decide +kernel
theorem d4_7 : decode prog_38_method_2_code 7 = .ok (.if_icmp .lt 17, 3) := by decide +kernel
theorem d4_24 : decode prog_38_method_2_code 24 = .ok (.iload_n 3, 1) := by decide +kernel
theorem d4_25 : decode prog_38_method_2_code 25 = .ok (.ifCond .le 28, 3) := by decide +kernel
theorem d4_53 : decode prog_38_method_2_code 53 = .ok (.lload_n 0, 1) := by decide +kernel
theorem d4_54 : decode prog_38_method_2_code 54 = .ok (.lconst 0, 1) := by decide +kernel
theorem d4_55 : decode prog_38_method_2_code 55 = .ok (.lcmp, 1) := by decide +kernel
theorem d4_56 : decode prog_38_method_2_code 56 = .ok (.ifCond .lt 10, 3) := by decide +kernel
theorem d4_59 : decode prog_38_method_2_code 59 = .ok (.lload_n 0, 1) := by decide +kernel
theorem d4_60 : decode prog_38_method_2_code 60 = .ok (.lload 5, 2) := by decide +kernel
theorem d4_62 : decode prog_38_method_2_code 62 = .ok (.lcmp, 1) := by decide +kernel
theorem d4_63 : decode prog_38_method_2_code 63 = .ok (.ifCond .le 19, 3) := by decide +kernel
theorem d4_82 : decode prog_38_method_2_code 82 = .ok (.iload_n 3, 1) := by decide +kernel
theorem d4_83 : decode prog_38_method_2_code 83 = .ok (.i2l, 1) := by decide +kernel
theorem d4_84 : decode prog_38_method_2_code 84 = .ok (.iload_n 2, 1) := by decide +kernel
theorem d4_85 : decode prog_38_method_2_code 85 = .ok (.iconst 1, 1) := by decide +kernel
theorem d4_86 : decode prog_38_method_2_code 86 = .ok (.iadd, 1) := by decide +kernel
theorem d4_87 : decode prog_38_method_2_code 87 = .ok (.i2l, 1) := by decide +kernel
theorem d4_88 : decode prog_38_method_2_code 88 = .ok (.lmul, 1) := by decide +kernel
theorem d4_89 : decode prog_38_method_2_code 89 = .ok (.aload 4, 2) := by decide +kernel
theorem d4_91 : decode prog_38_method_2_code 91 = .ok (.arraylength, 1) := by decide +kernel
theorem d4_92 : decode prog_38_method_2_code 92 = .ok (.i2l, 1) := by decide +kernel
theorem d4_93 : decode prog_38_method_2_code 93 = .ok (.ldc2_w 25, 3) := by decide +kernel
theorem d4_96 : decode prog_38_method_2_code 96 = .ok (.lmul, 1) := by decide +kernel
theorem d4_97 : decode prog_38_method_2_code 97 = .ok (.lcmp, 1) := by decide +kernel
theorem d4_98 : decode prog_38_method_2_code 98 = .ok (.ifCond .le 20, 3) := by decide +kernel
theorem d4_118 : decode prog_38_method_2_code 118 = .ok (.iload_n 3, 1) := by decide +kernel
theorem d4_119 : decode prog_38_method_2_code 119 = .ok (.iconst 1, 1) := by decide +kernel
theorem d4_120 : decode prog_38_method_2_code 120 = .ok (.iadd, 1) := by decide +kernel
theorem d4_121 : decode prog_38_method_2_code 121 = .ok (.newarray .int, 2) := by decide +kernel
theorem d4_123 : decode prog_38_method_2_code 123 = .ok (.astore 7, 2) := by decide +kernel
theorem d4_125 : decode prog_38_method_2_code 125 = .ok (.aload 7, 2) := by decide +kernel
theorem d4_127 : decode prog_38_method_2_code 127 = .ok (.iconst 0, 1) := by decide +kernel
theorem d4_128 : decode prog_38_method_2_code 128 = .ok (.lload_n 0, 1) := by decide +kernel
theorem d4_129 : decode prog_38_method_2_code 129 = .ok (.l2i, 1) := by decide +kernel
theorem d4_130 : decode prog_38_method_2_code 130 = .ok (.iastore, 1) := by decide +kernel
theorem d4_131 : decode prog_38_method_2_code 131 = .ok (.new 30, 3) := by decide +kernel
theorem d4_134 : decode prog_38_method_2_code 134 = .ok (.dup, 1) := by decide +kernel
theorem d4_135 : decode prog_38_method_2_code 135 = .ok (.aload 4, 2) := by decide +kernel
theorem d4_137 : decode prog_38_method_2_code 137 = .ok (.invokespecial 32, 3) := by decide +kernel
theorem d4_140 : decode prog_38_method_2_code 140 = .ok (.astore 8, 2) := by decide +kernel
theorem d4_142 : decode prog_38_method_2_code 142 = .ok (.lload_n 0, 1) := by decide +kernel
theorem d4_143 : decode prog_38_method_2_code 143 = .ok (.lstore 9, 2) := by decide +kernel
theorem d4_145 : decode prog_38_method_2_code 145 = .ok (.iconst 1, 1) := by decide +kernel
theorem d4_146 : decode prog_38_method_2_code 146 = .ok (.istore 11, 2) := by decide +kernel
theorem d4_148 : decode prog_38_method_2_code 148 = .ok (.iload 11, 2) := by decide +kernel
theorem d4_150 : decode prog_38_method_2_code 150 = .ok (.iload_n 3, 1) := by decide +kernel
theorem d4_151 : decode prog_38_method_2_code 151 = .ok (.if_icmp .gt 98, 3) := by decide +kernel
theorem d4_249 : decode prog_38_method_2_code 249 = .ok (.aload 7, 2) := by decide +kernel
theorem d4_251 : decode prog_38_method_2_code 251 = .ok (.areturn, 1) := by decide +kernel
theorem ef_dc0 (m : MethodId) (q0 : Int64) (p1 : Int32) (p2 : Int32) (r3 : Addr) (q4 : Int64) : entryFrame m #[(.long q0), (.int p1), (.int p2), (.ref r3), (.long q4)] 15 = mkF m 0 #[.val (.long q0), .second, .val (.int p1), .val (.int p2), .val (.ref r3), .val (.long q4), .second, .unset, .unset, .unset, .unset, .unset, .unset, .unset, .unset] [] := by (first | (simp [entryFrame, mkF, argsToLocals, Value.category]; done) | rfl)
theorem pn8 : plainName "com/example/canonic/canonic/RiceCode" = true := by first | (simp [plainName, overriddenIn]; done) | decide +kernel
def Qdc0 (Z : State) (q0 : Int64) (p1 : Int32) (p2 : Int32) (r3 : Addr) (q4 : Int64) (f : Nat → Int32) (D : Nat) (h0 : Heap) (n0 : Nat) (v : Option Value) (h : Heap) (L : List Loc) : Prop := ∃ x0 : Addr, v = some (.ref x0) ∧ Fr n0 L ∧ Keep h0 h [] ∧ h0.size ≤ x0 ∧ own_AI Z h x0 .int 1 (own_up (fun _ => (0 : Int32)) 0 (q0.toInt32))
set_option maxRecDepth 65536 in
set_option maxHeartbeats 40000000 in
theorem rmdc0 (l : Launch) (Z : State) (a0 : Array Value) (hw : ∀ d ∈ tables_1, d.before a0 Z = true) (ws : List Jvm.Cond) (q0 : Int64) (p1 : Int32) (p2 : Int32) (r3 : Addr) (q4 : Int64) (f : Nat → Int32) (D : Nat) (h0 : Heap) (n0 : Nat) (Z0 : n0 ≤ h0.size) (A_r3 : own_AI Z h0 r3 .byte 24 f) (hf : own_bytes D f) (hn0 : ¬ (q0 < (0 : Int64))) (hm0 : ¬ (q4 < q0)) (hn : p2 = (0 : Int32)) :
    MetFree l (⟨"com/example/canonic/canonic/RiceCode", "decode", "(JII[BJ)[I"⟩ : MethodName) (head1 (Jvm.Cond.code (⟨"com/example/canonic/canonic/RiceCode", "decode", "(JII[BJ)[I"⟩ : MethodName) prog_38_method_2_code 15 (some (.array .int)) :: ws) ({ frames := 2, cells := 2, slots := 5, locals := 26 } : Room)) (fun a U => a = #[(.long q0), (.int p1), (.int p2), (.ref r3), (.long q4)] ∧ Z.Warmed39 U.vm ∧ U.heap = h0) (fun _ _ _ _ _ => True) (fun _ U o U' => ∃ v L, o = .returned v ∧ Qdc0 Z q0 p1 p2 r3 q4 f D h0 n0 v U'.heap L ∧ FrameEnd U o U' L ({ frames := 2, cells := 2, slots := 5, locals := 26 } : Room).cells ({ frames := 2, cells := 2, slots := 5, locals := 26 } : Room).slots) := by
  refine MetFree.of_bodySF (plainFor_of_name pn8) hisR ?_
  intro p e s m args below meth c s₁ Bd hml0 hP hK
  obtain ⟨rfl, hZ, hh⟩ := hP
  have hx := Bd.exec
  have hby := Bd.bytes
  have hml : c.maxLocals = 15 := hml0
  have hown : s.vm.findClass "com/example/canonic/canonic/RiceCode" = some m.cls := findClass_of_methodNamed Bd.named
  have hnm := (name_of_methodNamed Bd.named Bd.method).1
  have X0 : Stand p l e ({ frames := 2, cells := 2, slots := 5, locals := 26 } : Room) s m #[(.long q0), (.int p1), (.int p2), (.ref r3), (.long q4)] below meth c s₁ [] 0 0 := Stand.of_body Bd
  have e0 : s₁.heap = h0 := by rw [← hh, Bd.state]; rfl
  have N0 := Fr.nil n0
  have K0 : Keep h0 h0 [] := Keep.refl h0 _
  show own_Go p e below s (Qdc0 Z q0 p1 p2 r3 q4 f D h0 n0) ({ frames := 2, cells := 2, slots := 5, locals := 26 } : Room).cells ({ frames := 2, cells := 2, slots := 5, locals := 26 } : Room).slots (s₁.setTop (entryFrame m #[(.long q0), (.int p1), (.int p2), (.ref r3), (.long q4)] 15))
  refine own_go (fun t k => castTop (ef_dc0 m q0 p1 p2 r3 q4) k) ?_
  obtain ⟨T101, h101, k101, X101, e101, E101, A101, st101⟩ := newP X0 hx hZ (hw _ (List.mem_of_getElem? (i := 22) rfl)) e0 (g := (mkF m 121 #[.val (.long q0), .second, .val (.int p1), .val (.int (0 : Int32)), .val (.ref r3), .val (.long q4), .second, .unset, .unset, .unset, .unset, .unset, .unset, .unset, .unset] [(.int (1 : Int32))])) rfl (hb hby d4_121) rfl (by decide) (cap := 1) (by decide) (by decide) (by decide) (by decide)
  obtain ⟨b101, g101⟩ : ∃ z, z = h0.size := ⟨_, rfl⟩
  rw [← g101] at A101 st101
  have ne_r3_b101 : r3 ≠ b101 := Nat.ne_of_lt (Nat.lt_of_lt_of_le A_r3.lt (Nat.le_of_eq g101.symm))
  have g_b101 : n0 ≤ b101 := Nat.le_trans Z0 (Nat.le_of_eq g101.symm)
  have sz_b101 : h0.size ≤ b101 := Nat.le_trans K0.1 (Nat.le_of_eq g101.symm)
  have F102 := A_r3.ext E101
  have Z103 : n0 ≤ h101.size := Nat.le_trans Z0 E101.1
  have K104 : Keep h0 h101 [] := K0.ext E101
  obtain ⟨v1, hv1⟩ : ∃ z : Nat → Int32, z = (fun _ => (0 : Int32)) := ⟨_, rfl⟩
  have F105 : own_AI Z h101 b101 .int 1 v1 := by rw [hv1]; exact own_AI.new A101 rfl (by decide)
  obtain ⟨v2, hv2⟩ : ∃ z : Int32, z = (q0.toInt32) := ⟨_, rfl⟩
  have hin130_106 : ¬ (0 : Int32) < 0 ∧ (0 : Int32).toNatClampNeg < 1 := by decide
  obtain ⟨T107, h107, X107, e107, W107, B107, st107⟩ := own_stI X101 hx hZ e101 F105 (j := (0 : Int32)) (x := v2) hin130_106 (g := (mkF m 130 #[.val (.long q0), .second, .val (.int p1), .val (.int (0 : Int32)), .val (.ref r3), .val (.long q4), .second, .val (.ref b101), .unset, .unset, .unset, .unset, .unset, .unset, .unset] [(.int v2), (.int (0 : Int32)), (.ref b101)])) rfl rfl (hb hby d4_130)
  obtain ⟨v3, hv3⟩ : ∃ z : Nat → Int32, z = (own_up v1 0 v2) := ⟨_, rfl⟩
  have B107n : own_AI Z h107 b101 .int 1 v3 := by rw [hv3]; exact B107
  have F108 := F102.other W107 ne_r3_b101
  have Z109 : n0 ≤ h107.size := Nat.le_trans Z103 (Keep.of_wr W107).1
  have K110 : Keep h0 h107 [] := K104.wr W107 (Or.inr sz_b101)
  have N111 := Fr.snoc X107 N0 g_b101
  obtain ⟨T112, h112, X112, e112, E112, A112, D112, -, st112⟩ := newO X107 hx hZ hown (hw _ (List.mem_of_getElem? (i := 23) rfl)) (hw _ (List.mem_of_getElem? (i := 24) rfl)) (hw _ (List.mem_of_getElem? (i := 25) rfl)) e107 (g := (mkF m 131 #[.val (.long q0), .second, .val (.int p1), .val (.int (0 : Int32)), .val (.ref r3), .val (.long q4), .second, .val (.ref b101), .unset, .unset, .unset, .unset, .unset, .unset, .unset] [])) rfl (hb hby d4_131) (by decide) (by decide)
  obtain ⟨b112, g112⟩ : ∃ z, z = h107.size := ⟨_, rfl⟩
  rw [← g112] at A112 D112 st112
  have ne_r3_b112 : r3 ≠ b112 := Nat.ne_of_lt (Nat.lt_of_lt_of_le F108.lt (Nat.le_of_eq g112.symm))
  have ne_b101_b112 : b101 ≠ b112 := Nat.ne_of_lt (Nat.lt_of_lt_of_le B107n.lt (Nat.le_of_eq g112.symm))
  have g_b112 : n0 ≤ b112 := Nat.le_trans Z109 (Nat.le_of_eq g112.symm)
  have sz_b112 : h0.size ≤ b112 := Nat.le_trans K110.1 (Nat.le_of_eq g112.symm)
  have F113 := F108.ext E112
  have F114 := B107n.ext E112
  have Z115 : n0 ≤ h112.size := Nat.le_trans Z109 E112.1
  have K116 : Keep h0 h112 [] := K110.ext E112
  have F117 : Fld Z h112 b112 "com/example/canonic/canonic/RiceCode$Bits" "data" "[B" .null := D112 (Or.inr (hw _ (List.mem_of_getElem? (i := 33) rfl))) (ty := (.array .byte)) (by decide)
  have F118 : Fld Z h112 b112 "com/example/canonic/canonic/RiceCode$Bits" "buffered" "I" (.int (0 : Int32)) := D112 (Or.inl (hw _ (List.mem_of_getElem? (i := 44) rfl))) (ty := .int) (by decide)
  have F119 : Fld Z h112 b112 "com/example/canonic/canonic/RiceCode$Bits" "next" "I" (.int (0 : Int32)) := D112 (Or.inl (hw _ (List.mem_of_getElem? (i := 46) rfl))) (ty := .int) (by decide)
  have F120 : Fld Z h112 b112 "com/example/canonic/canonic/RiceCode$Bits" "buffer" "J" (.long (0 : Int64)) := D112 (Or.inl (hw _ (List.mem_of_getElem? (i := 48) rfl))) (ty := .long) (by decide)
  obtain ⟨_, _, ⟨T121, L121, k121, n121⟩, -, X121, ⟨Lc121, hQ121, l121, y121, z121⟩, st121⟩ := own_specialBackR X112 hx hZ (y := (⟨"com/example/canonic/canonic/RiceCode$Bits", "<init>", "([B)V"⟩ : MethodName)) rfl hown (hw _ (List.mem_of_getElem? (i := 26) rfl)) (mvT hZ (hw _ (List.mem_of_getElem? (i := 27) rfl))) (mvT hZ (hw _ (List.mem_of_getElem? (i := 28) rfl))) (by decide) (backOf (W := 1) (rm5 l Z a0 hw [] b112 r3 .null (0 : Int32) (0 : Int32) (0 : Int64) h112 n0 Z115 A112 F117 F118 F119 F120 g_b112) hZ (hw _ (List.mem_of_getElem? (i := 28) rfl)) (hw _ (List.mem_of_getElem? (i := 25) rfl)) (by decide) (by decide)) (g := (mkF m 137 #[.val (.long q0), .second, .val (.int p1), .val (.int (0 : Int32)), .val (.ref r3), .val (.long q4), .second, .val (.ref b101), .unset, .unset, .unset, .unset, .unset, .unset, .unset] [(.ref r3), (.ref b112), (.ref b112)])) rfl (by rw [hml]; rfl) (Steps.refl _) (a := b112) (argsL := [(.ref r3)]) (rest := [(.ref b112)]) (lenOf pd7 rfl) rfl (by show 2 * 0 + _ ≤ _; exact Nat.le_of_eq rfl) (hb hby d4_137) (fun _ _ => ⟨rfl, e112, (by decide : 2 + 0 ≤ _), (by decide : 5 + 0 ≤ _)⟩)
  dsimp only [Pt.U, Pt.locs, Pt.cells, Pt.slots] at X121 l121 y121 z121 st121 hQ121
  subst l121 y121 z121
  obtain ⟨rfl, N121q, K121q, F121_0, F121_1, F121_2, F121_3, F121_4⟩ := hQ121
  have F122 := F113.keep K121q (ninS ne_r3_b112 nin0)
  have F123 := F114.keep K121q (ninS ne_b101_b112 nin0)
  have F124 := A112.keep K121q
  have Z125 : n0 ≤ T121.heap.size := Nat.le_trans Z115 K121q.1
  have K126 : Keep h0 T121.heap [] := K116.trans K121q (allS (Or.inr sz_b112) all0)
  have N121 := Fr.app N111 N121q
  have hgo127 : ∀ t, Steps p.tables e below (T121.setTop (mkF m 251 #[.val (.long q0), .second, .val (.int p1), .val (.int (0 : Int32)), .val (.ref r3), .val (.long q4), .second, .val (.ref b101), .val (.ref b112), .val (.long q0), .second, .val (.int (1 : Int32)), .unset, .unset, .unset] [(.ref b101)])) t → Steps p.tables e below (s₁.setTop (mkF m 0 #[.val (.long q0), .second, .val (.int p1), .val (.int p2), .val (.ref r3), .val (.long q4), .second, .unset, .unset, .unset, .unset, .unset, .unset, .unset, .unset] [])) t := by
    intro t kt
    show Steps p.tables e below (s₁.setTop (mkF m 0 #[.val (.long q0), .second, .val (.int p1), .val (.int p2), .val (.ref r3), .val (.long q4), .second, .unset, .unset, .unset, .unset, .unset, .unset, .unset, .unset] [])) _
    rw [hn]
    show Steps p.tables e below (s₁.setTop (mkF m 0 #[.val (.long q0), .second, .val (.int p1), .val (.int (0 : Int32)), .val (.ref r3), .val (.long q4), .second, .unset, .unset, .unset, .unset, .unset, .unset, .unset, .unset] [])) _
    refine XS.iloadN X0.here hx rfl (hb hby d4_0) rfl ?_
    refine XS.ifNo X0.here hx rfl (hb hby d4_1) rfl ((if0 _ _).trans (flt (by decide : ¬ ((0 : Int32) < (0 : Int32)))).1) ?_
    show Steps p.tables e below (s₁.setTop (mkF m 4 #[.val (.long q0), .second, .val (.int p1), .val (.int (0 : Int32)), .val (.ref r3), .val (.long q4), .second, .unset, .unset, .unset, .unset, .unset, .unset, .unset, .unset] [])) _
    refine XS.iloadN X0.here hx rfl (hb hby d4_4) rfl ?_
    show Steps p.tables e below (s₁.setTop (mkF m 5 #[.val (.long q0), .second, .val (.int p1), .val (.int (0 : Int32)), .val (.ref r3), .val (.long q4), .second, .unset, .unset, .unset, .unset, .unset, .unset, .unset, .unset] [(.int (0 : Int32))])) _
    refine X0.ldcInt hx hown (mvT hZ (hw _ (List.mem_of_getElem? (i := 20) rfl))) (g := (mkF m 5 #[.val (.long q0), .second, .val (.int p1), .val (.int (0 : Int32)), .val (.ref r3), .val (.long q4), .second, .unset, .unset, .unset, .unset, .unset, .unset, .unset, .unset] [(.int (0 : Int32))])) rfl (hb hby d4_5) _ ?_
    show Steps p.tables e below (s₁.setTop (mkF m 7 #[.val (.long q0), .second, .val (.int p1), .val (.int (0 : Int32)), .val (.ref r3), .val (.long q4), .second, .unset, .unset, .unset, .unset, .unset, .unset, .unset, .unset] [(.int (2147483639 : Int32)), (.int (0 : Int32))])) _
    refine XS.icmpYes X0.here hx rfl (pc0 := 7) (pc' := 24) rfl (hb hby d4_7) rfl (tlt (by decide : (0 : Int32) < (2147483639 : Int32))).1 (by decide) (by decide) ?_
    show Steps p.tables e below (s₁.setTop (mkF m 24 #[.val (.long q0), .second, .val (.int p1), .val (.int (0 : Int32)), .val (.ref r3), .val (.long q4), .second, .unset, .unset, .unset, .unset, .unset, .unset, .unset, .unset] [])) _
    refine XS.iloadN X0.here hx rfl (hb hby d4_24) rfl ?_
    refine XS.ifYes X0.here hx rfl (pc0 := 25) (pc' := 53) rfl (hb hby d4_25) rfl ((if0 _ _).trans (flt (by decide : ¬ ((0 : Int32) < (0 : Int32)))).2.2.2) (by decide) (by decide) ?_
    show Steps p.tables e below (s₁.setTop (mkF m 53 #[.val (.long q0), .second, .val (.int p1), .val (.int (0 : Int32)), .val (.ref r3), .val (.long q4), .second, .unset, .unset, .unset, .unset, .unset, .unset, .unset, .unset] [])) _
    refine XS.lloadN X0.here hx rfl (hb hby d4_53) rfl ?_
    refine XS.lconst X0.here hx rfl (hb hby d4_54) ?_
    refine XS.lcmp X0.here hx rfl (hb hby d4_55) rfl ?_
    show Steps p.tables e below (s₁.setTop (mkF m 56 #[.val (.long q0), .second, .val (.int p1), .val (.int (0 : Int32)), .val (.ref r3), .val (.long q4), .second, .unset, .unset, .unset, .unset, .unset, .unset, .unset, .unset] [(.int (lcmpW q0 (0 : Int64)))])) _
    refine XS.ifNo X0.here hx rfl (hb hby d4_56) rfl ((if0 _ _).trans (flt (own_lc_nlt hn0)).1) ?_
    show Steps p.tables e below (s₁.setTop (mkF m 59 #[.val (.long q0), .second, .val (.int p1), .val (.int (0 : Int32)), .val (.ref r3), .val (.long q4), .second, .unset, .unset, .unset, .unset, .unset, .unset, .unset, .unset] [])) _
    refine XS.lloadN X0.here hx rfl (hb hby d4_59) rfl ?_
    refine XS.lload X0.here hx rfl (hb hby d4_60) rfl ?_
    refine XS.lcmp X0.here hx rfl (hb hby d4_62) rfl ?_
    show Steps p.tables e below (s₁.setTop (mkF m 63 #[.val (.long q0), .second, .val (.int p1), .val (.int (0 : Int32)), .val (.ref r3), .val (.long q4), .second, .unset, .unset, .unset, .unset, .unset, .unset, .unset, .unset] [(.int (lcmpW q0 q4))])) _
    refine XS.ifYes X0.here hx rfl (pc0 := 63) (pc' := 82) rfl (hb hby d4_63) rfl ((if0 _ _).trans (flt (own_lc_ngt hm0)).2.2.2) (by decide) (by decide) ?_
    show Steps p.tables e below (s₁.setTop (mkF m 82 #[.val (.long q0), .second, .val (.int p1), .val (.int (0 : Int32)), .val (.ref r3), .val (.long q4), .second, .unset, .unset, .unset, .unset, .unset, .unset, .unset, .unset] [])) _
    refine XS.iloadN X0.here hx rfl (hb hby d4_82) rfl ?_
    refine XS.i2l X0.here hx rfl (hb hby d4_83) rfl ?_
    show Steps p.tables e below (s₁.setTop (mkF m 84 #[.val (.long q0), .second, .val (.int p1), .val (.int (0 : Int32)), .val (.ref r3), .val (.long q4), .second, .unset, .unset, .unset, .unset, .unset, .unset, .unset, .unset] [(.long ((0 : Int32).toInt64))])) _
    refine XS.iloadN X0.here hx rfl (hb hby d4_84) rfl ?_
    refine XS.iconst X0.here hx rfl (hb hby d4_85) ?_
    refine XS.iadd X0.here hx rfl (hb hby d4_86) rfl ?_
    show Steps p.tables e below (s₁.setTop (mkF m 87 #[.val (.long q0), .second, .val (.int p1), .val (.int (0 : Int32)), .val (.ref r3), .val (.long q4), .second, .unset, .unset, .unset, .unset, .unset, .unset, .unset, .unset] [(.int (p1 + (1 : Int32))), (.long ((0 : Int32).toInt64))])) _
    refine XS.i2l X0.here hx rfl (hb hby d4_87) rfl ?_
    show Steps p.tables e below (s₁.setTop (mkF m 88 #[.val (.long q0), .second, .val (.int p1), .val (.int (0 : Int32)), .val (.ref r3), .val (.long q4), .second, .unset, .unset, .unset, .unset, .unset, .unset, .unset, .unset] [(.long ((p1 + (1 : Int32)).toInt64)), (.long ((0 : Int32).toInt64))])) _
    refine XS.lmul X0.here hx rfl (hb hby d4_88) rfl ?_
    show Steps p.tables e below (s₁.setTop (mkF m 89 #[.val (.long q0), .second, .val (.int p1), .val (.int (0 : Int32)), .val (.ref r3), .val (.long q4), .second, .unset, .unset, .unset, .unset, .unset, .unset, .unset, .unset] [(.long (((0 : Int32).toInt64) * ((p1 + (1 : Int32)).toInt64)))])) _
    refine XS.aload X0.here hx rfl (hb hby d4_89) rfl rfl ?_
    show Steps p.tables e below (s₁.setTop (mkF m 91 #[.val (.long q0), .second, .val (.int p1), .val (.int (0 : Int32)), .val (.ref r3), .val (.long q4), .second, .unset, .unset, .unset, .unset, .unset, .unset, .unset, .unset] [(.ref r3), (.long (((0 : Int32).toInt64) * ((p1 + (1 : Int32)).toInt64)))])) _
    refine own_lenI X0 hx hZ e0 A_r3 (g := (mkF m 91 #[.val (.long q0), .second, .val (.int p1), .val (.int (0 : Int32)), .val (.ref r3), .val (.long q4), .second, .unset, .unset, .unset, .unset, .unset, .unset, .unset, .unset] [(.ref r3), (.long (((0 : Int32).toInt64) * ((p1 + (1 : Int32)).toInt64)))])) rfl rfl (hb hby d4_91) _ ?_
    show Steps p.tables e below (s₁.setTop (mkF m 92 #[.val (.long q0), .second, .val (.int p1), .val (.int (0 : Int32)), .val (.ref r3), .val (.long q4), .second, .unset, .unset, .unset, .unset, .unset, .unset, .unset, .unset] [(.int (24 : Int32)), (.long (((0 : Int32).toInt64) * ((p1 + (1 : Int32)).toInt64)))])) _
    refine XS.i2l X0.here hx rfl (hb hby d4_92) rfl ?_
    show Steps p.tables e below (s₁.setTop (mkF m 93 #[.val (.long q0), .second, .val (.int p1), .val (.int (0 : Int32)), .val (.ref r3), .val (.long q4), .second, .unset, .unset, .unset, .unset, .unset, .unset, .unset, .unset] [(.long ((24 : Int32).toInt64)), (.long (((0 : Int32).toInt64) * ((p1 + (1 : Int32)).toInt64)))])) _
    refine X0.ldc2Long hx hown (mvT hZ (hw _ (List.mem_of_getElem? (i := 21) rfl))) (g := (mkF m 93 #[.val (.long q0), .second, .val (.int p1), .val (.int (0 : Int32)), .val (.ref r3), .val (.long q4), .second, .unset, .unset, .unset, .unset, .unset, .unset, .unset, .unset] [(.long ((24 : Int32).toInt64)), (.long (((0 : Int32).toInt64) * ((p1 + (1 : Int32)).toInt64)))])) rfl (hb hby d4_93) _ ?_
    show Steps p.tables e below (s₁.setTop (mkF m 96 #[.val (.long q0), .second, .val (.int p1), .val (.int (0 : Int32)), .val (.ref r3), .val (.long q4), .second, .unset, .unset, .unset, .unset, .unset, .unset, .unset, .unset] [(.long (8 : Int64)), (.long ((24 : Int32).toInt64)), (.long (((0 : Int32).toInt64) * ((p1 + (1 : Int32)).toInt64)))])) _
    refine XS.lmul X0.here hx rfl (hb hby d4_96) rfl ?_
    show Steps p.tables e below (s₁.setTop (mkF m 97 #[.val (.long q0), .second, .val (.int p1), .val (.int (0 : Int32)), .val (.ref r3), .val (.long q4), .second, .unset, .unset, .unset, .unset, .unset, .unset, .unset, .unset] [(.long (((24 : Int32).toInt64) * (8 : Int64))), (.long (((0 : Int32).toInt64) * ((p1 + (1 : Int32)).toInt64)))])) _
    refine XS.lcmp X0.here hx rfl (hb hby d4_97) rfl ?_
    show Steps p.tables e below (s₁.setTop (mkF m 98 #[.val (.long q0), .second, .val (.int p1), .val (.int (0 : Int32)), .val (.ref r3), .val (.long q4), .second, .unset, .unset, .unset, .unset, .unset, .unset, .unset, .unset] [(.int (lcmpW (((0 : Int32).toInt64) * ((p1 + (1 : Int32)).toInt64)) (((24 : Int32).toInt64) * (8 : Int64))))])) _
    refine XS.ifYes X0.here hx rfl (pc0 := 98) (pc' := 118) rfl (hb hby d4_98) rfl ((if0 _ _).trans (flt (own_lc_ngt (own_m98_0 p1))).2.2.2) (by decide) (by decide) ?_
    show Steps p.tables e below (s₁.setTop (mkF m 118 #[.val (.long q0), .second, .val (.int p1), .val (.int (0 : Int32)), .val (.ref r3), .val (.long q4), .second, .unset, .unset, .unset, .unset, .unset, .unset, .unset, .unset] [])) _
    refine XS.iloadN X0.here hx rfl (hb hby d4_118) rfl ?_
    refine XS.iconst X0.here hx rfl (hb hby d4_119) ?_
    refine XS.iadd X0.here hx rfl (hb hby d4_120) rfl ?_
    show Steps p.tables e below (s₁.setTop (mkF m 121 #[.val (.long q0), .second, .val (.int p1), .val (.int (0 : Int32)), .val (.ref r3), .val (.long q4), .second, .unset, .unset, .unset, .unset, .unset, .unset, .unset, .unset] [(.int (1 : Int32))])) _
    refine st101 _ ?_
    show Steps p.tables e below (T101.setTop (mkF m 123 #[.val (.long q0), .second, .val (.int p1), .val (.int (0 : Int32)), .val (.ref r3), .val (.long q4), .second, .unset, .unset, .unset, .unset, .unset, .unset, .unset, .unset] [(.ref b101)])) _
    refine XS.astore X101.here hx rfl (hb hby d4_123) rfl rfl (l' := #[.val (.long q0), .second, .val (.int p1), .val (.int (0 : Int32)), .val (.ref r3), .val (.long q4), .second, .val (.ref b101), .unset, .unset, .unset, .unset, .unset, .unset, .unset]) rfl ?_
    show Steps p.tables e below (T101.setTop (mkF m 125 #[.val (.long q0), .second, .val (.int p1), .val (.int (0 : Int32)), .val (.ref r3), .val (.long q4), .second, .val (.ref b101), .unset, .unset, .unset, .unset, .unset, .unset, .unset] [])) _
    refine XS.aload X101.here hx rfl (hb hby d4_125) rfl rfl ?_
    refine XS.iconst X101.here hx rfl (hb hby d4_127) ?_
    refine XS.lloadN X101.here hx rfl (hb hby d4_128) rfl ?_
    show Steps p.tables e below (T101.setTop (mkF m 129 #[.val (.long q0), .second, .val (.int p1), .val (.int (0 : Int32)), .val (.ref r3), .val (.long q4), .second, .val (.ref b101), .unset, .unset, .unset, .unset, .unset, .unset, .unset] [(.long q0), (.int (0 : Int32)), (.ref b101)])) _
    refine XS.l2i X101.here hx rfl (hb hby d4_129) rfl ?_
    show Steps p.tables e below (T101.setTop (mkF m 130 #[.val (.long q0), .second, .val (.int p1), .val (.int (0 : Int32)), .val (.ref r3), .val (.long q4), .second, .val (.ref b101), .unset, .unset, .unset, .unset, .unset, .unset, .unset] [(.int (q0.toInt32)), (.int (0 : Int32)), (.ref b101)])) _
    rw [← hv2]
    refine st107 _ ?_
    show Steps p.tables e below (T107.setTop (mkF m 131 #[.val (.long q0), .second, .val (.int p1), .val (.int (0 : Int32)), .val (.ref r3), .val (.long q4), .second, .val (.ref b101), .unset, .unset, .unset, .unset, .unset, .unset, .unset] [])) _
    refine st112 _ ?_
    show Steps p.tables e below (T112.setTop (mkF m 134 #[.val (.long q0), .second, .val (.int p1), .val (.int (0 : Int32)), .val (.ref r3), .val (.long q4), .second, .val (.ref b101), .unset, .unset, .unset, .unset, .unset, .unset, .unset] [(.ref b112)])) _
    refine XS.dup X112.here hx rfl (hb hby d4_134) rfl rfl ?_
    show Steps p.tables e below (T112.setTop (mkF m 135 #[.val (.long q0), .second, .val (.int p1), .val (.int (0 : Int32)), .val (.ref r3), .val (.long q4), .second, .val (.ref b101), .unset, .unset, .unset, .unset, .unset, .unset, .unset] [(.ref b112), (.ref b112)])) _
    refine XS.aload X112.here hx rfl (hb hby d4_135) rfl rfl ?_
    show Steps p.tables e below (T112.setTop (mkF m 137 #[.val (.long q0), .second, .val (.int p1), .val (.int (0 : Int32)), .val (.ref r3), .val (.long q4), .second, .val (.ref b101), .unset, .unset, .unset, .unset, .unset, .unset, .unset] [(.ref r3), (.ref b112), (.ref b112)])) _
    refine st121.trans ?_
    show Steps p.tables e below (T121.setTop (mkF m 140 #[.val (.long q0), .second, .val (.int p1), .val (.int (0 : Int32)), .val (.ref r3), .val (.long q4), .second, .val (.ref b101), .unset, .unset, .unset, .unset, .unset, .unset, .unset] [(.ref b112)])) _
    refine XS.astore X121.here hx rfl (hb hby d4_140) rfl rfl (l' := #[.val (.long q0), .second, .val (.int p1), .val (.int (0 : Int32)), .val (.ref r3), .val (.long q4), .second, .val (.ref b101), .val (.ref b112), .unset, .unset, .unset, .unset, .unset, .unset]) rfl ?_
    show Steps p.tables e below (T121.setTop (mkF m 142 #[.val (.long q0), .second, .val (.int p1), .val (.int (0 : Int32)), .val (.ref r3), .val (.long q4), .second, .val (.ref b101), .val (.ref b112), .unset, .unset, .unset, .unset, .unset, .unset] [])) _
    refine XS.lloadN X121.here hx rfl (hb hby d4_142) rfl ?_
    refine XS.lstore X121.here hx rfl (hb hby d4_143) rfl (l' := #[.val (.long q0), .second, .val (.int p1), .val (.int (0 : Int32)), .val (.ref r3), .val (.long q4), .second, .val (.ref b101), .val (.ref b112), .val (.long q0), .second, .unset, .unset, .unset, .unset]) rfl ?_
    show Steps p.tables e below (T121.setTop (mkF m 145 #[.val (.long q0), .second, .val (.int p1), .val (.int (0 : Int32)), .val (.ref r3), .val (.long q4), .second, .val (.ref b101), .val (.ref b112), .val (.long q0), .second, .unset, .unset, .unset, .unset] [])) _
    refine XS.iconst X121.here hx rfl (hb hby d4_145) ?_
    refine XS.istore X121.here hx rfl (hb hby d4_146) rfl (l' := #[.val (.long q0), .second, .val (.int p1), .val (.int (0 : Int32)), .val (.ref r3), .val (.long q4), .second, .val (.ref b101), .val (.ref b112), .val (.long q0), .second, .val (.int (1 : Int32)), .unset, .unset, .unset]) rfl ?_
    show Steps p.tables e below (T121.setTop (mkF m 148 #[.val (.long q0), .second, .val (.int p1), .val (.int (0 : Int32)), .val (.ref r3), .val (.long q4), .second, .val (.ref b101), .val (.ref b112), .val (.long q0), .second, .val (.int (1 : Int32)), .unset, .unset, .unset] [])) _
    refine XS.iload X121.here hx rfl (hb hby d4_148) rfl ?_
    refine XS.iloadN X121.here hx rfl (hb hby d4_150) rfl ?_
    refine XS.icmpYes X121.here hx rfl (pc0 := 151) (pc' := 249) rfl (hb hby d4_151) rfl (tlt (by decide : (0 : Int32) < (1 : Int32))).2.2.1 (by decide) (by decide) ?_
    show Steps p.tables e below (T121.setTop (mkF m 249 #[.val (.long q0), .second, .val (.int p1), .val (.int (0 : Int32)), .val (.ref r3), .val (.long q4), .second, .val (.ref b101), .val (.ref b112), .val (.long q0), .second, .val (.int (1 : Int32)), .unset, .unset, .unset] [])) _
    refine XS.aload X121.here hx rfl (hb hby d4_249) rfl rfl ?_
    exact kt
  refine own_go hgo127 ?_
  exact own_retA X121 hx Bd.returns rfl rfl Bd.notSynchronized (hb hby d4_251) (by decide) (by decide) ⟨b101, (by rfl), N121, K126, sz_b101, (by subst hv3 hv2 hv1; exact F123)⟩
theorem pd9 : parseMethodDescriptor "()J" = some ⟨[], some .long⟩ := by decide +kernel
theorem d4_28 : decode prog_38_method_2_code 28 = .ok (.iload_n 2, 1) := by decide +kernel
theorem d4_29 : decode prog_38_method_2_code 29 = .ok (.iconst 2, 1) := by decide +kernel
theorem d4_30 : decode prog_38_method_2_code 30 = .ok (.if_icmp .lt 9, 3) := by decide +kernel
theorem d4_33 : decode prog_38_method_2_code 33 = .ok (.iload_n 2, 1) := by decide +kernel
theorem d4_34 : decode prog_38_method_2_code 34 = .ok (.bipush 28, 2) := by decide +kernel
theorem d4_36 : decode prog_38_method_2_code 36 = .ok (.if_icmp .le 17, 3) := by decide +kernel
theorem d4_154 : decode prog_38_method_2_code 154 = .ok (.aload 8, 2) := by decide +kernel
theorem d4_156 : decode prog_38_method_2_code 156 = .ok (.invokevirtual 35, 3) := by decide +kernel
theorem d4_159 : decode prog_38_method_2_code 159 = .ok (.lstore 12, 2) := by decide +kernel
theorem d4_161 : decode prog_38_method_2_code 161 = .ok (.aload 8, 2) := by decide +kernel
theorem d4_163 : decode prog_38_method_2_code 163 = .ok (.iload_n 2, 1) := by decide +kernel
theorem d4_164 : decode prog_38_method_2_code 164 = .ok (.invokevirtual 39, 3) := by decide +kernel
theorem d4_167 : decode prog_38_method_2_code 167 = .ok (.istore 14, 2) := by decide +kernel
theorem d4_169 : decode prog_38_method_2_code 169 = .ok (.iload 14, 2) := by decide +kernel
theorem d4_171 : decode prog_38_method_2_code 171 = .ok (.ifCond .ge 24, 3) := by decide +kernel
theorem d4_195 : decode prog_38_method_2_code 195 = .ok (.lload 9, 2) := by decide +kernel
theorem d4_197 : decode prog_38_method_2_code 197 = .ok (.lload 12, 2) := by decide +kernel
theorem d4_199 : decode prog_38_method_2_code 199 = .ok (.iload_n 2, 1) := by decide +kernel
theorem d4_200 : decode prog_38_method_2_code 200 = .ok (.lshl, 1) := by decide +kernel
theorem d4_201 : decode prog_38_method_2_code 201 = .ok (.iload 14, 2) := by decide +kernel
theorem d4_203 : decode prog_38_method_2_code 203 = .ok (.i2l, 1) := by decide +kernel
theorem d4_204 : decode prog_38_method_2_code 204 = .ok (.lor, 1) := by decide +kernel
theorem d4_205 : decode prog_38_method_2_code 205 = .ok (.ladd, 1) := by decide +kernel
theorem d4_206 : decode prog_38_method_2_code 206 = .ok (.lstore 9, 2) := by decide +kernel
theorem d4_208 : decode prog_38_method_2_code 208 = .ok (.lload 9, 2) := by decide +kernel
theorem d4_210 : decode prog_38_method_2_code 210 = .ok (.lload 5, 2) := by decide +kernel
theorem d4_212 : decode prog_38_method_2_code 212 = .ok (.lcmp, 1) := by decide +kernel
theorem d4_213 : decode prog_38_method_2_code 213 = .ok (.ifCond .le 22, 3) := by decide +kernel
theorem d4_235 : decode prog_38_method_2_code 235 = .ok (.aload 7, 2) := by decide +kernel
theorem d4_237 : decode prog_38_method_2_code 237 = .ok (.iload 11, 2) := by decide +kernel
theorem d4_239 : decode prog_38_method_2_code 239 = .ok (.lload 9, 2) := by decide +kernel
theorem d4_241 : decode prog_38_method_2_code 241 = .ok (.l2i, 1) := by decide +kernel
theorem d4_242 : decode prog_38_method_2_code 242 = .ok (.iastore, 1) := by decide +kernel
theorem d4_243 : decode prog_38_method_2_code 243 = .ok (.iinc 11 1, 3) := by decide +kernel
theorem d4_246 : decode prog_38_method_2_code 246 = .ok (.goto (-98), 3) := by decide +kernel
theorem ef_dc1 (m : MethodId) (q0 : Int64) (p1 : Int32) (p2 : Int32) (r3 : Addr) (q4 : Int64) : entryFrame m #[(.long q0), (.int p1), (.int p2), (.ref r3), (.long q4)] 15 = mkF m 0 #[.val (.long q0), .second, .val (.int p1), .val (.int p2), .val (.ref r3), .val (.long q4), .second, .unset, .unset, .unset, .unset, .unset, .unset, .unset, .unset] [] := by (first | (simp [entryFrame, mkF, argsToLocals, Value.category]; done) | rfl)
def Qdc1 (Z : State) (q0 : Int64) (p1 : Int32) (p2 : Int32) (r3 : Addr) (q4 : Int64) (f : Nat → Int32) (D : Nat) (cn : Nat) (qe1 : Nat) (z1 : Int64) (y1 : Int32) (h0 : Heap) (n0 : Nat) (v : Option Value) (h : Heap) (L : List Loc) : Prop := ∃ x0 : Addr, v = some (.ref x0) ∧ Fr n0 L ∧ Keep h0 h [] ∧ h0.size ≤ x0 ∧ own_AI Z h x0 .int 2 (own_up (own_up (fun _ => (0 : Int32)) 0 (q0.toInt32)) 1 ((q0 + ((z1 <<< (p1 &&& 0x3f).toInt64) ||| (y1.toInt64))).toInt32))
set_option maxRecDepth 65536 in
set_option maxHeartbeats 40000000 in
theorem rmdc1 (l : Launch) (Z : State) (a0 : Array Value) (hw : ∀ d ∈ tables_1, d.before a0 Z = true) (ws : List Jvm.Cond) (q0 : Int64) (p1 : Int32) (p2 : Int32) (r3 : Addr) (q4 : Int64) (f : Nat → Int32) (D : Nat) (cn : Nat) (qe1 : Nat) (z1 : Int64) (y1 : Int32) (h0 : Heap) (n0 : Nat) (Z0 : n0 ≤ h0.size) (A_r3 : own_AI Z h0 r3 .byte 24 f) (hf : own_bytes D f) (hn0 : ¬ (q0 < (0 : Int64))) (hm0 : ¬ (q4 < q0)) (hp : p1.toInt = (cn : Int)) (h2 : 2 ≤ cn) (h28 : cn ≤ 28) (hPE : (0 + qe1 + 1 + cn) ≤ 192) (hq1 : D / 2 ^ 0 % 2 ^ (qe1 + 1) = 2 ^ qe1 - 1) (hy1 : y1.toInt = ((D / 2 ^ (0 + qe1 + 1) % 2 ^ cn : Nat) : Int)) (hz1 : z1.toBitVec.toNat = qe1) (hm1 : ¬ (q4 < (q0 + ((z1 <<< (p1 &&& 0x3f).toInt64) ||| (y1.toInt64))))) (hn : p2 = (1 : Int32)) :
    MetFree l (⟨"com/example/canonic/canonic/RiceCode", "decode", "(JII[BJ)[I"⟩ : MethodName) (head1 (Jvm.Cond.code (⟨"com/example/canonic/canonic/RiceCode", "decode", "(JII[BJ)[I"⟩ : MethodName) prog_38_method_2_code 15 (some (.array .int)) :: ws) ({ frames := 3, cells := 2, slots := 6, locals := 55 } : Room)) (fun a U => a = #[(.long q0), (.int p1), (.int p2), (.ref r3), (.long q4)] ∧ Z.Warmed39 U.vm ∧ U.heap = h0) (fun _ _ _ _ _ => True) (fun _ U o U' => ∃ v L, o = .returned v ∧ Qdc1 Z q0 p1 p2 r3 q4 f D cn qe1 z1 y1 h0 n0 v U'.heap L ∧ FrameEnd U o U' L ({ frames := 3, cells := 2, slots := 6, locals := 55 } : Room).cells ({ frames := 3, cells := 2, slots := 6, locals := 55 } : Room).slots) := by
  refine MetFree.of_bodySF (plainFor_of_name pn8) hisR ?_
  intro p e s m args below meth c s₁ Bd hml0 hP hK
  obtain ⟨rfl, hZ, hh⟩ := hP
  have hx := Bd.exec
  have hby := Bd.bytes
  have hml : c.maxLocals = 15 := hml0
  have hown : s.vm.findClass "com/example/canonic/canonic/RiceCode" = some m.cls := findClass_of_methodNamed Bd.named
  have hnm := (name_of_methodNamed Bd.named Bd.method).1
  have X0 : Stand p l e ({ frames := 3, cells := 2, slots := 6, locals := 55 } : Room) s m #[(.long q0), (.int p1), (.int p2), (.ref r3), (.long q4)] below meth c s₁ [] 0 0 := Stand.of_body Bd
  have e0 : s₁.heap = h0 := by rw [← hh, Bd.state]; rfl
  have N0 := Fr.nil n0
  have K0 : Keep h0 h0 [] := Keep.refl h0 _
  show own_Go p e below s (Qdc1 Z q0 p1 p2 r3 q4 f D cn qe1 z1 y1 h0 n0) ({ frames := 3, cells := 2, slots := 6, locals := 55 } : Room).cells ({ frames := 3, cells := 2, slots := 6, locals := 55 } : Room).slots (s₁.setTop (entryFrame m #[(.long q0), (.int p1), (.int p2), (.ref r3), (.long q4)] 15))
  refine own_go (fun t k => castTop (ef_dc1 m q0 p1 p2 r3 q4) k) ?_
  obtain ⟨T101, h101, k101, X101, e101, E101, A101, st101⟩ := newP X0 hx hZ (hw _ (List.mem_of_getElem? (i := 22) rfl)) e0 (g := (mkF m 121 #[.val (.long q0), .second, .val (.int p1), .val (.int (1 : Int32)), .val (.ref r3), .val (.long q4), .second, .unset, .unset, .unset, .unset, .unset, .unset, .unset, .unset] [(.int (2 : Int32))])) rfl (hb hby d4_121) rfl (by decide) (cap := 2) (by decide) (by decide) (by decide) (by decide)
  obtain ⟨b101, g101⟩ : ∃ z, z = h0.size := ⟨_, rfl⟩
  rw [← g101] at A101 st101
  have ne_r3_b101 : r3 ≠ b101 := Nat.ne_of_lt (Nat.lt_of_lt_of_le A_r3.lt (Nat.le_of_eq g101.symm))
  have g_b101 : n0 ≤ b101 := Nat.le_trans Z0 (Nat.le_of_eq g101.symm)
  have sz_b101 : h0.size ≤ b101 := Nat.le_trans K0.1 (Nat.le_of_eq g101.symm)
  have F102 := A_r3.ext E101
  have Z103 : n0 ≤ h101.size := Nat.le_trans Z0 E101.1
  have K104 : Keep h0 h101 [] := K0.ext E101
  obtain ⟨v1, hv1⟩ : ∃ z : Nat → Int32, z = (fun _ => (0 : Int32)) := ⟨_, rfl⟩
  have F105 : own_AI Z h101 b101 .int 2 v1 := by rw [hv1]; exact own_AI.new A101 rfl (by decide)
  obtain ⟨v2, hv2⟩ : ∃ z : Int32, z = (q0.toInt32) := ⟨_, rfl⟩
  have hin130_106 : ¬ (0 : Int32) < 0 ∧ (0 : Int32).toNatClampNeg < 2 := by decide
  obtain ⟨T107, h107, X107, e107, W107, B107, st107⟩ := own_stI X101 hx hZ e101 F105 (j := (0 : Int32)) (x := v2) hin130_106 (g := (mkF m 130 #[.val (.long q0), .second, .val (.int p1), .val (.int (1 : Int32)), .val (.ref r3), .val (.long q4), .second, .val (.ref b101), .unset, .unset, .unset, .unset, .unset, .unset, .unset] [(.int v2), (.int (0 : Int32)), (.ref b101)])) rfl rfl (hb hby d4_130)
  obtain ⟨v3, hv3⟩ : ∃ z : Nat → Int32, z = (own_up v1 0 v2) := ⟨_, rfl⟩
  have B107n : own_AI Z h107 b101 .int 2 v3 := by rw [hv3]; exact B107
  have F108 := F102.other W107 ne_r3_b101
  have Z109 : n0 ≤ h107.size := Nat.le_trans Z103 (Keep.of_wr W107).1
  have K110 : Keep h0 h107 [] := K104.wr W107 (Or.inr sz_b101)
  have N111 := Fr.snoc X107 N0 g_b101
  obtain ⟨T112, h112, X112, e112, E112, A112, D112, -, st112⟩ := newO X107 hx hZ hown (hw _ (List.mem_of_getElem? (i := 23) rfl)) (hw _ (List.mem_of_getElem? (i := 24) rfl)) (hw _ (List.mem_of_getElem? (i := 25) rfl)) e107 (g := (mkF m 131 #[.val (.long q0), .second, .val (.int p1), .val (.int (1 : Int32)), .val (.ref r3), .val (.long q4), .second, .val (.ref b101), .unset, .unset, .unset, .unset, .unset, .unset, .unset] [])) rfl (hb hby d4_131) (by decide) (by decide)
  obtain ⟨b112, g112⟩ : ∃ z, z = h107.size := ⟨_, rfl⟩
  rw [← g112] at A112 D112 st112
  have ne_r3_b112 : r3 ≠ b112 := Nat.ne_of_lt (Nat.lt_of_lt_of_le F108.lt (Nat.le_of_eq g112.symm))
  have ne_b101_b112 : b101 ≠ b112 := Nat.ne_of_lt (Nat.lt_of_lt_of_le B107n.lt (Nat.le_of_eq g112.symm))
  have g_b112 : n0 ≤ b112 := Nat.le_trans Z109 (Nat.le_of_eq g112.symm)
  have sz_b112 : h0.size ≤ b112 := Nat.le_trans K110.1 (Nat.le_of_eq g112.symm)
  have F113 := F108.ext E112
  have F114 := B107n.ext E112
  have Z115 : n0 ≤ h112.size := Nat.le_trans Z109 E112.1
  have K116 : Keep h0 h112 [] := K110.ext E112
  have F117 : Fld Z h112 b112 "com/example/canonic/canonic/RiceCode$Bits" "data" "[B" .null := D112 (Or.inr (hw _ (List.mem_of_getElem? (i := 33) rfl))) (ty := (.array .byte)) (by decide)
  have F118 : Fld Z h112 b112 "com/example/canonic/canonic/RiceCode$Bits" "buffered" "I" (.int (0 : Int32)) := D112 (Or.inl (hw _ (List.mem_of_getElem? (i := 44) rfl))) (ty := .int) (by decide)
  have F119 : Fld Z h112 b112 "com/example/canonic/canonic/RiceCode$Bits" "next" "I" (.int (0 : Int32)) := D112 (Or.inl (hw _ (List.mem_of_getElem? (i := 46) rfl))) (ty := .int) (by decide)
  have F120 : Fld Z h112 b112 "com/example/canonic/canonic/RiceCode$Bits" "buffer" "J" (.long (0 : Int64)) := D112 (Or.inl (hw _ (List.mem_of_getElem? (i := 48) rfl))) (ty := .long) (by decide)
  obtain ⟨_, _, ⟨T121, L121, k121, n121⟩, -, X121, ⟨Lc121, hQ121, l121, y121, z121⟩, st121⟩ := own_specialBackR X112 hx hZ (y := (⟨"com/example/canonic/canonic/RiceCode$Bits", "<init>", "([B)V"⟩ : MethodName)) rfl hown (hw _ (List.mem_of_getElem? (i := 26) rfl)) (mvT hZ (hw _ (List.mem_of_getElem? (i := 27) rfl))) (mvT hZ (hw _ (List.mem_of_getElem? (i := 28) rfl))) (by decide) (backOf (W := 1) (rm5 l Z a0 hw [] b112 r3 .null (0 : Int32) (0 : Int32) (0 : Int64) h112 n0 Z115 A112 F117 F118 F119 F120 g_b112) hZ (hw _ (List.mem_of_getElem? (i := 28) rfl)) (hw _ (List.mem_of_getElem? (i := 25) rfl)) (by decide) (by decide)) (g := (mkF m 137 #[.val (.long q0), .second, .val (.int p1), .val (.int (1 : Int32)), .val (.ref r3), .val (.long q4), .second, .val (.ref b101), .unset, .unset, .unset, .unset, .unset, .unset, .unset] [(.ref r3), (.ref b112), (.ref b112)])) rfl (by rw [hml]; rfl) (Steps.refl _) (a := b112) (argsL := [(.ref r3)]) (rest := [(.ref b112)]) (lenOf pd7 rfl) rfl (by show 2 * 0 + _ ≤ _; exact Nat.le_of_eq rfl) (hb hby d4_137) (fun _ _ => ⟨rfl, e112, (by decide : 2 + 0 ≤ _), (by decide : 6 + 0 ≤ _)⟩)
  dsimp only [Pt.U, Pt.locs, Pt.cells, Pt.slots] at X121 l121 y121 z121 st121 hQ121
  subst l121 y121 z121
  obtain ⟨rfl, N121q, K121q, F121_0, F121_1, F121_2, F121_3, F121_4⟩ := hQ121
  have F122 := F113.keep K121q (ninS ne_r3_b112 nin0)
  have F123 := F114.keep K121q (ninS ne_b101_b112 nin0)
  have F124 := A112.keep K121q
  have Z125 : n0 ≤ T121.heap.size := Nat.le_trans Z115 K121q.1
  have K126 : Keep h0 T121.heap [] := K116.trans K121q (allS (Or.inr sz_b112) all0)
  have N121 := Fr.app N111 N121q
  obtain ⟨cq127, kq127, q127a, q127b, q127c⟩ := isOf hZ (rfl : T121.heap = T121.heap) F121_0
  obtain ⟨_, _, ⟨T127, L127, k127, n127⟩, -, X127, ⟨Lc127, hQ127, l127, y127, z127⟩, st127⟩ := X121.virtualBack hx (y := (⟨"com/example/canonic/canonic/RiceCode$Bits", "unary", "()J"⟩ : MethodName)) (z := (⟨"com/example/canonic/canonic/RiceCode$Bits", "unary", "()J"⟩ : MethodName)) hown (mvT hZ (hw _ (List.mem_of_getElem? (i := 34) rfl))) (mvT hZ (hw _ (List.mem_of_getElem? (i := 35) rfl))) (notFace_of_selects (args := #[]) (mvT hZ (hw _ (List.mem_of_getElem? (i := 37) rfl)))) (mvT hZ (hw _ (List.mem_of_getElem? (i := 37) rfl))) (mvT hZ (hw _ (List.mem_of_getElem? (i := 36) rfl))) (by decide) (backOf (W := 0) (rmun l Z a0 hw [] b112 r3 f D 0 (0 : Int32) (0 : Int64) (0 : Int32) qe1 z1 (T121.heap) n0 Z125 F121_0 F121_1 F121_3 F121_4 F121_2 F122 (Ne.symm ne_r3_b112) g_b112 (hf : own_bytes D f) (own_BI0 : own_BI D 0 (0 : Int32) (0 : Int64) (0 : Int32)) (hq1 : D / 2 ^ 0 % 2 ^ (qe1 + 1) = 2 ^ qe1 - 1) (by omega : 0 + qe1 + 1 ≤ 192) (hz1 : z1.toBitVec.toNat = qe1)) hZ (hw _ (List.mem_of_getElem? (i := 38) rfl)) (hw _ (List.mem_of_getElem? (i := 25) rfl)) (by decide) (by decide)) q127a q127c (g := (mkF m 156 #[.val (.long q0), .second, .val (.int p1), .val (.int (1 : Int32)), .val (.ref r3), .val (.long q4), .second, .val (.ref b101), .val (.ref b112), .val (.long q0), .second, .val (.int (1 : Int32)), .unset, .unset, .unset] [(.ref b112)])) rfl (by rw [hml]; rfl) (Steps.refl _) (argsL := []) (rest := []) (lenOf pd9 rfl) rfl (by show 2 * 0 + _ ≤ _; exact Nat.le_of_eq rfl) (hb hby d4_156) (fun _ _ => ⟨rfl, (rfl : T121.heap = T121.heap), (by decide : 2 + 0 ≤ _), (by decide : 6 + 0 ≤ _)⟩)
  dsimp only [Pt.U, Pt.locs, Pt.cells, Pt.slots] at X127 l127 y127 z127 st127 hQ127
  subst l127 y127 z127
  obtain ⟨b127_0, b127_1, b127_2, rfl, N127q, K127q, F127_0, F127_1, F127_2, F127_3, F127_4, F127_5⟩ := hQ127
  have F128 := F122.keep K127q (ninS ne_r3_b112 nin0)
  have F129 := F123.keep K127q (ninS ne_b101_b112 nin0)
  have F130 := F121_0.keep K127q
  have Z131 : n0 ≤ T127.heap.size := Nat.le_trans Z125 K127q.1
  have K132 : Keep h0 T127.heap [] := K126.trans K127q (allS (Or.inr sz_b112) all0)
  have N127 := Fr.app N121 N127q
  obtain ⟨cq133, kq133, q133a, q133b, q133c⟩ := isOf hZ (rfl : T127.heap = T127.heap) F127_0
  obtain ⟨_, _, ⟨T133, L133, k133, n133⟩, -, X133, ⟨Lc133, hQ133, l133, y133, z133⟩, st133⟩ := X127.virtualBack hx (y := (⟨"com/example/canonic/canonic/RiceCode$Bits", "read", "(I)I"⟩ : MethodName)) (z := (⟨"com/example/canonic/canonic/RiceCode$Bits", "read", "(I)I"⟩ : MethodName)) hown (mvT hZ (hw _ (List.mem_of_getElem? (i := 60) rfl))) (mvT hZ (hw _ (List.mem_of_getElem? (i := 61) rfl))) (notFace_of_selects (args := #[]) (mvT hZ (hw _ (List.mem_of_getElem? (i := 63) rfl)))) (mvT hZ (hw _ (List.mem_of_getElem? (i := 63) rfl))) (mvT hZ (hw _ (List.mem_of_getElem? (i := 62) rfl))) (by decide) (backOf (W := 0) (rmrd l Z a0 hw [] b112 p1 r3 f D (0 + qe1 + 1) b127_0 b127_1 b127_2 cn y1 (T127.heap) n0 Z131 F127_0 F127_1 F127_2 F127_3 F127_4 F128 (Ne.symm ne_r3_b112) g_b112 (hf : own_bytes D f) (F127_5 : own_BI D (0 + qe1 + 1) b127_0 b127_1 b127_2) (hp : p1.toInt = (cn : Int)) (h28 : cn ≤ 28) (by omega : (0 + qe1 + 1) + cn ≤ 192) (hy1 : y1.toInt = ((D / 2 ^ (0 + qe1 + 1) % 2 ^ cn : Nat) : Int))) hZ (hw _ (List.mem_of_getElem? (i := 64) rfl)) (hw _ (List.mem_of_getElem? (i := 25) rfl)) (by decide) (by decide)) q133a q133c (g := (mkF m 164 #[.val (.long q0), .second, .val (.int p1), .val (.int (1 : Int32)), .val (.ref r3), .val (.long q4), .second, .val (.ref b101), .val (.ref b112), .val (.long q0), .second, .val (.int (1 : Int32)), .val (.long z1), .second, .unset] [(.int p1), (.ref b112)])) rfl (by rw [hml]; rfl) (Steps.refl _) (argsL := [(.int p1)]) (rest := []) (lenOf pd1 rfl) rfl (by show 2 * 0 + _ ≤ _; exact Nat.le_of_eq rfl) (hb hby d4_164) (fun _ _ => ⟨rfl, (rfl : T127.heap = T127.heap), (by decide : 2 + 0 ≤ _), (by decide : 6 + 0 ≤ _)⟩)
  dsimp only [Pt.U, Pt.locs, Pt.cells, Pt.slots] at X133 l133 y133 z133 st133 hQ133
  subst l133 y133 z133
  obtain ⟨b133_0, b133_1, b133_2, rfl, N133q, K133q, F133_0, F133_1, F133_2, F133_3, F133_4, F133_5⟩ := hQ133
  have F134 := F128.keep K133q (ninS ne_r3_b112 nin0)
  have F135 := F129.keep K133q (ninS ne_b101_b112 nin0)
  have F136 := F127_0.keep K133q
  have Z137 : n0 ≤ T133.heap.size := Nat.le_trans Z131 K133q.1
  have K138 : Keep h0 T133.heap [] := K132.trans K133q (allS (Or.inr sz_b112) all0)
  have N133 := Fr.app N127 N133q
  obtain ⟨v4, hv4⟩ : ∃ z : Int64, z = (q0 + ((z1 <<< (p1 &&& 0x3f).toInt64) ||| (y1.toInt64))) := ⟨_, rfl⟩
  obtain ⟨v5, hv5⟩ : ∃ z : Int32, z = (v4.toInt32) := ⟨_, rfl⟩
  have hin242_139 : ¬ (1 : Int32) < 0 ∧ (1 : Int32).toNatClampNeg < 2 := by decide
  obtain ⟨T140, h140, X140, e140, W140, B140, st140⟩ := own_stI X133 hx hZ (rfl : T133.heap = T133.heap) F135 (j := (1 : Int32)) (x := v5) hin242_139 (g := (mkF m 242 #[.val (.long q0), .second, .val (.int p1), .val (.int (1 : Int32)), .val (.ref r3), .val (.long q4), .second, .val (.ref b101), .val (.ref b112), .val (.long v4), .second, .val (.int (1 : Int32)), .val (.long z1), .second, .val (.int y1)] [(.int v5), (.int (1 : Int32)), (.ref b101)])) rfl rfl (hb hby d4_242)
  obtain ⟨v6, hv6⟩ : ∃ z : Nat → Int32, z = (own_up v3 1 v5) := ⟨_, rfl⟩
  have B140n : own_AI Z h140 b101 .int 2 v6 := by rw [hv6]; exact B140
  have F141 := F134.other W140 ne_r3_b101
  have F142 := F133_0.wr W140
  have F143 := F133_1.other W140 (Or.inl (Ne.symm ne_b101_b112))
  have F144 := F133_2.other W140 (Or.inl (Ne.symm ne_b101_b112))
  have F145 := F133_3.other W140 (Or.inl (Ne.symm ne_b101_b112))
  have F146 := F133_4.other W140 (Or.inl (Ne.symm ne_b101_b112))
  have Z147 : n0 ≤ h140.size := Nat.le_trans Z137 (Keep.of_wr W140).1
  have K148 : Keep h0 h140 [] := K138.wr W140 (Or.inr sz_b101)
  have N149 := Fr.snoc X140 N133 g_b101
  have hgo150 : ∀ t, Steps p.tables e below (T140.setTop (mkF m 251 #[.val (.long q0), .second, .val (.int p1), .val (.int (1 : Int32)), .val (.ref r3), .val (.long q4), .second, .val (.ref b101), .val (.ref b112), .val (.long v4), .second, .val (.int (2 : Int32)), .val (.long z1), .second, .val (.int y1)] [(.ref b101)])) t → Steps p.tables e below (s₁.setTop (mkF m 0 #[.val (.long q0), .second, .val (.int p1), .val (.int p2), .val (.ref r3), .val (.long q4), .second, .unset, .unset, .unset, .unset, .unset, .unset, .unset, .unset] [])) t := by
    intro t kt
    show Steps p.tables e below (s₁.setTop (mkF m 0 #[.val (.long q0), .second, .val (.int p1), .val (.int p2), .val (.ref r3), .val (.long q4), .second, .unset, .unset, .unset, .unset, .unset, .unset, .unset, .unset] [])) _
    rw [hn]
    show Steps p.tables e below (s₁.setTop (mkF m 0 #[.val (.long q0), .second, .val (.int p1), .val (.int (1 : Int32)), .val (.ref r3), .val (.long q4), .second, .unset, .unset, .unset, .unset, .unset, .unset, .unset, .unset] [])) _
    refine XS.iloadN X0.here hx rfl (hb hby d4_0) rfl ?_
    refine XS.ifNo X0.here hx rfl (hb hby d4_1) rfl ((if0 _ _).trans (flt (by decide : ¬ ((1 : Int32) < (0 : Int32)))).1) ?_
    show Steps p.tables e below (s₁.setTop (mkF m 4 #[.val (.long q0), .second, .val (.int p1), .val (.int (1 : Int32)), .val (.ref r3), .val (.long q4), .second, .unset, .unset, .unset, .unset, .unset, .unset, .unset, .unset] [])) _
    refine XS.iloadN X0.here hx rfl (hb hby d4_4) rfl ?_
    show Steps p.tables e below (s₁.setTop (mkF m 5 #[.val (.long q0), .second, .val (.int p1), .val (.int (1 : Int32)), .val (.ref r3), .val (.long q4), .second, .unset, .unset, .unset, .unset, .unset, .unset, .unset, .unset] [(.int (1 : Int32))])) _
    refine X0.ldcInt hx hown (mvT hZ (hw _ (List.mem_of_getElem? (i := 20) rfl))) (g := (mkF m 5 #[.val (.long q0), .second, .val (.int p1), .val (.int (1 : Int32)), .val (.ref r3), .val (.long q4), .second, .unset, .unset, .unset, .unset, .unset, .unset, .unset, .unset] [(.int (1 : Int32))])) rfl (hb hby d4_5) _ ?_
    show Steps p.tables e below (s₁.setTop (mkF m 7 #[.val (.long q0), .second, .val (.int p1), .val (.int (1 : Int32)), .val (.ref r3), .val (.long q4), .second, .unset, .unset, .unset, .unset, .unset, .unset, .unset, .unset] [(.int (2147483639 : Int32)), (.int (1 : Int32))])) _
    refine XS.icmpYes X0.here hx rfl (pc0 := 7) (pc' := 24) rfl (hb hby d4_7) rfl (tlt (by decide : (1 : Int32) < (2147483639 : Int32))).1 (by decide) (by decide) ?_
    show Steps p.tables e below (s₁.setTop (mkF m 24 #[.val (.long q0), .second, .val (.int p1), .val (.int (1 : Int32)), .val (.ref r3), .val (.long q4), .second, .unset, .unset, .unset, .unset, .unset, .unset, .unset, .unset] [])) _
    refine XS.iloadN X0.here hx rfl (hb hby d4_24) rfl ?_
    refine XS.ifNo X0.here hx rfl (hb hby d4_25) rfl ((if0 _ _).trans (tlt (by decide : (0 : Int32) < (1 : Int32))).2.2.2) ?_
    show Steps p.tables e below (s₁.setTop (mkF m 28 #[.val (.long q0), .second, .val (.int p1), .val (.int (1 : Int32)), .val (.ref r3), .val (.long q4), .second, .unset, .unset, .unset, .unset, .unset, .unset, .unset, .unset] [])) _
    refine XS.iloadN X0.here hx rfl (hb hby d4_28) rfl ?_
    refine XS.iconst X0.here hx rfl (hb hby d4_29) ?_
    refine XS.icmpNo X0.here hx rfl (hb hby d4_30) rfl (flt (own_lt2 hp h2)).1 ?_
    show Steps p.tables e below (s₁.setTop (mkF m 33 #[.val (.long q0), .second, .val (.int p1), .val (.int (1 : Int32)), .val (.ref r3), .val (.long q4), .second, .unset, .unset, .unset, .unset, .unset, .unset, .unset, .unset] [])) _
    refine XS.iloadN X0.here hx rfl (hb hby d4_33) rfl ?_
    refine XS.bipush X0.here hx rfl (hb hby d4_34) ?_
    refine XS.icmpYes X0.here hx rfl (pc0 := 36) (pc' := 53) rfl (hb hby d4_36) rfl (flt (own_lt28 hp h28)).2.2.2 (by decide) (by decide) ?_
    show Steps p.tables e below (s₁.setTop (mkF m 53 #[.val (.long q0), .second, .val (.int p1), .val (.int (1 : Int32)), .val (.ref r3), .val (.long q4), .second, .unset, .unset, .unset, .unset, .unset, .unset, .unset, .unset] [])) _
    refine XS.lloadN X0.here hx rfl (hb hby d4_53) rfl ?_
    refine XS.lconst X0.here hx rfl (hb hby d4_54) ?_
    refine XS.lcmp X0.here hx rfl (hb hby d4_55) rfl ?_
    show Steps p.tables e below (s₁.setTop (mkF m 56 #[.val (.long q0), .second, .val (.int p1), .val (.int (1 : Int32)), .val (.ref r3), .val (.long q4), .second, .unset, .unset, .unset, .unset, .unset, .unset, .unset, .unset] [(.int (lcmpW q0 (0 : Int64)))])) _
    refine XS.ifNo X0.here hx rfl (hb hby d4_56) rfl ((if0 _ _).trans (flt (own_lc_nlt hn0)).1) ?_
    show Steps p.tables e below (s₁.setTop (mkF m 59 #[.val (.long q0), .second, .val (.int p1), .val (.int (1 : Int32)), .val (.ref r3), .val (.long q4), .second, .unset, .unset, .unset, .unset, .unset, .unset, .unset, .unset] [])) _
    refine XS.lloadN X0.here hx rfl (hb hby d4_59) rfl ?_
    refine XS.lload X0.here hx rfl (hb hby d4_60) rfl ?_
    refine XS.lcmp X0.here hx rfl (hb hby d4_62) rfl ?_
    show Steps p.tables e below (s₁.setTop (mkF m 63 #[.val (.long q0), .second, .val (.int p1), .val (.int (1 : Int32)), .val (.ref r3), .val (.long q4), .second, .unset, .unset, .unset, .unset, .unset, .unset, .unset, .unset] [(.int (lcmpW q0 q4))])) _
    refine XS.ifYes X0.here hx rfl (pc0 := 63) (pc' := 82) rfl (hb hby d4_63) rfl ((if0 _ _).trans (flt (own_lc_ngt hm0)).2.2.2) (by decide) (by decide) ?_
    show Steps p.tables e below (s₁.setTop (mkF m 82 #[.val (.long q0), .second, .val (.int p1), .val (.int (1 : Int32)), .val (.ref r3), .val (.long q4), .second, .unset, .unset, .unset, .unset, .unset, .unset, .unset, .unset] [])) _
    refine XS.iloadN X0.here hx rfl (hb hby d4_82) rfl ?_
    refine XS.i2l X0.here hx rfl (hb hby d4_83) rfl ?_
    show Steps p.tables e below (s₁.setTop (mkF m 84 #[.val (.long q0), .second, .val (.int p1), .val (.int (1 : Int32)), .val (.ref r3), .val (.long q4), .second, .unset, .unset, .unset, .unset, .unset, .unset, .unset, .unset] [(.long ((1 : Int32).toInt64))])) _
    refine XS.iloadN X0.here hx rfl (hb hby d4_84) rfl ?_
    refine XS.iconst X0.here hx rfl (hb hby d4_85) ?_
    refine XS.iadd X0.here hx rfl (hb hby d4_86) rfl ?_
    show Steps p.tables e below (s₁.setTop (mkF m 87 #[.val (.long q0), .second, .val (.int p1), .val (.int (1 : Int32)), .val (.ref r3), .val (.long q4), .second, .unset, .unset, .unset, .unset, .unset, .unset, .unset, .unset] [(.int (p1 + (1 : Int32))), (.long ((1 : Int32).toInt64))])) _
    refine XS.i2l X0.here hx rfl (hb hby d4_87) rfl ?_
    show Steps p.tables e below (s₁.setTop (mkF m 88 #[.val (.long q0), .second, .val (.int p1), .val (.int (1 : Int32)), .val (.ref r3), .val (.long q4), .second, .unset, .unset, .unset, .unset, .unset, .unset, .unset, .unset] [(.long ((p1 + (1 : Int32)).toInt64)), (.long ((1 : Int32).toInt64))])) _
    refine XS.lmul X0.here hx rfl (hb hby d4_88) rfl ?_
    show Steps p.tables e below (s₁.setTop (mkF m 89 #[.val (.long q0), .second, .val (.int p1), .val (.int (1 : Int32)), .val (.ref r3), .val (.long q4), .second, .unset, .unset, .unset, .unset, .unset, .unset, .unset, .unset] [(.long (((1 : Int32).toInt64) * ((p1 + (1 : Int32)).toInt64)))])) _
    refine XS.aload X0.here hx rfl (hb hby d4_89) rfl rfl ?_
    show Steps p.tables e below (s₁.setTop (mkF m 91 #[.val (.long q0), .second, .val (.int p1), .val (.int (1 : Int32)), .val (.ref r3), .val (.long q4), .second, .unset, .unset, .unset, .unset, .unset, .unset, .unset, .unset] [(.ref r3), (.long (((1 : Int32).toInt64) * ((p1 + (1 : Int32)).toInt64)))])) _
    refine own_lenI X0 hx hZ e0 A_r3 (g := (mkF m 91 #[.val (.long q0), .second, .val (.int p1), .val (.int (1 : Int32)), .val (.ref r3), .val (.long q4), .second, .unset, .unset, .unset, .unset, .unset, .unset, .unset, .unset] [(.ref r3), (.long (((1 : Int32).toInt64) * ((p1 + (1 : Int32)).toInt64)))])) rfl rfl (hb hby d4_91) _ ?_
    show Steps p.tables e below (s₁.setTop (mkF m 92 #[.val (.long q0), .second, .val (.int p1), .val (.int (1 : Int32)), .val (.ref r3), .val (.long q4), .second, .unset, .unset, .unset, .unset, .unset, .unset, .unset, .unset] [(.int (24 : Int32)), (.long (((1 : Int32).toInt64) * ((p1 + (1 : Int32)).toInt64)))])) _
    refine XS.i2l X0.here hx rfl (hb hby d4_92) rfl ?_
    show Steps p.tables e below (s₁.setTop (mkF m 93 #[.val (.long q0), .second, .val (.int p1), .val (.int (1 : Int32)), .val (.ref r3), .val (.long q4), .second, .unset, .unset, .unset, .unset, .unset, .unset, .unset, .unset] [(.long ((24 : Int32).toInt64)), (.long (((1 : Int32).toInt64) * ((p1 + (1 : Int32)).toInt64)))])) _
    refine X0.ldc2Long hx hown (mvT hZ (hw _ (List.mem_of_getElem? (i := 21) rfl))) (g := (mkF m 93 #[.val (.long q0), .second, .val (.int p1), .val (.int (1 : Int32)), .val (.ref r3), .val (.long q4), .second, .unset, .unset, .unset, .unset, .unset, .unset, .unset, .unset] [(.long ((24 : Int32).toInt64)), (.long (((1 : Int32).toInt64) * ((p1 + (1 : Int32)).toInt64)))])) rfl (hb hby d4_93) _ ?_
    show Steps p.tables e below (s₁.setTop (mkF m 96 #[.val (.long q0), .second, .val (.int p1), .val (.int (1 : Int32)), .val (.ref r3), .val (.long q4), .second, .unset, .unset, .unset, .unset, .unset, .unset, .unset, .unset] [(.long (8 : Int64)), (.long ((24 : Int32).toInt64)), (.long (((1 : Int32).toInt64) * ((p1 + (1 : Int32)).toInt64)))])) _
    refine XS.lmul X0.here hx rfl (hb hby d4_96) rfl ?_
    show Steps p.tables e below (s₁.setTop (mkF m 97 #[.val (.long q0), .second, .val (.int p1), .val (.int (1 : Int32)), .val (.ref r3), .val (.long q4), .second, .unset, .unset, .unset, .unset, .unset, .unset, .unset, .unset] [(.long (((24 : Int32).toInt64) * (8 : Int64))), (.long (((1 : Int32).toInt64) * ((p1 + (1 : Int32)).toInt64)))])) _
    refine XS.lcmp X0.here hx rfl (hb hby d4_97) rfl ?_
    show Steps p.tables e below (s₁.setTop (mkF m 98 #[.val (.long q0), .second, .val (.int p1), .val (.int (1 : Int32)), .val (.ref r3), .val (.long q4), .second, .unset, .unset, .unset, .unset, .unset, .unset, .unset, .unset] [(.int (lcmpW (((1 : Int32).toInt64) * ((p1 + (1 : Int32)).toInt64)) (((24 : Int32).toInt64) * (8 : Int64))))])) _
    refine XS.ifYes X0.here hx rfl (pc0 := 98) (pc' := 118) rfl (hb hby d4_98) rfl ((if0 _ _).trans (flt (own_lc_ngt (own_m98_1 hp h28))).2.2.2) (by decide) (by decide) ?_
    show Steps p.tables e below (s₁.setTop (mkF m 118 #[.val (.long q0), .second, .val (.int p1), .val (.int (1 : Int32)), .val (.ref r3), .val (.long q4), .second, .unset, .unset, .unset, .unset, .unset, .unset, .unset, .unset] [])) _
    refine XS.iloadN X0.here hx rfl (hb hby d4_118) rfl ?_
    refine XS.iconst X0.here hx rfl (hb hby d4_119) ?_
    refine XS.iadd X0.here hx rfl (hb hby d4_120) rfl ?_
    show Steps p.tables e below (s₁.setTop (mkF m 121 #[.val (.long q0), .second, .val (.int p1), .val (.int (1 : Int32)), .val (.ref r3), .val (.long q4), .second, .unset, .unset, .unset, .unset, .unset, .unset, .unset, .unset] [(.int (2 : Int32))])) _
    refine st101 _ ?_
    show Steps p.tables e below (T101.setTop (mkF m 123 #[.val (.long q0), .second, .val (.int p1), .val (.int (1 : Int32)), .val (.ref r3), .val (.long q4), .second, .unset, .unset, .unset, .unset, .unset, .unset, .unset, .unset] [(.ref b101)])) _
    refine XS.astore X101.here hx rfl (hb hby d4_123) rfl rfl (l' := #[.val (.long q0), .second, .val (.int p1), .val (.int (1 : Int32)), .val (.ref r3), .val (.long q4), .second, .val (.ref b101), .unset, .unset, .unset, .unset, .unset, .unset, .unset]) rfl ?_
    show Steps p.tables e below (T101.setTop (mkF m 125 #[.val (.long q0), .second, .val (.int p1), .val (.int (1 : Int32)), .val (.ref r3), .val (.long q4), .second, .val (.ref b101), .unset, .unset, .unset, .unset, .unset, .unset, .unset] [])) _
    refine XS.aload X101.here hx rfl (hb hby d4_125) rfl rfl ?_
    refine XS.iconst X101.here hx rfl (hb hby d4_127) ?_
    refine XS.lloadN X101.here hx rfl (hb hby d4_128) rfl ?_
    show Steps p.tables e below (T101.setTop (mkF m 129 #[.val (.long q0), .second, .val (.int p1), .val (.int (1 : Int32)), .val (.ref r3), .val (.long q4), .second, .val (.ref b101), .unset, .unset, .unset, .unset, .unset, .unset, .unset] [(.long q0), (.int (0 : Int32)), (.ref b101)])) _
    refine XS.l2i X101.here hx rfl (hb hby d4_129) rfl ?_
    show Steps p.tables e below (T101.setTop (mkF m 130 #[.val (.long q0), .second, .val (.int p1), .val (.int (1 : Int32)), .val (.ref r3), .val (.long q4), .second, .val (.ref b101), .unset, .unset, .unset, .unset, .unset, .unset, .unset] [(.int (q0.toInt32)), (.int (0 : Int32)), (.ref b101)])) _
    rw [← hv2]
    refine st107 _ ?_
    show Steps p.tables e below (T107.setTop (mkF m 131 #[.val (.long q0), .second, .val (.int p1), .val (.int (1 : Int32)), .val (.ref r3), .val (.long q4), .second, .val (.ref b101), .unset, .unset, .unset, .unset, .unset, .unset, .unset] [])) _
    refine st112 _ ?_
    show Steps p.tables e below (T112.setTop (mkF m 134 #[.val (.long q0), .second, .val (.int p1), .val (.int (1 : Int32)), .val (.ref r3), .val (.long q4), .second, .val (.ref b101), .unset, .unset, .unset, .unset, .unset, .unset, .unset] [(.ref b112)])) _
    refine XS.dup X112.here hx rfl (hb hby d4_134) rfl rfl ?_
    show Steps p.tables e below (T112.setTop (mkF m 135 #[.val (.long q0), .second, .val (.int p1), .val (.int (1 : Int32)), .val (.ref r3), .val (.long q4), .second, .val (.ref b101), .unset, .unset, .unset, .unset, .unset, .unset, .unset] [(.ref b112), (.ref b112)])) _
    refine XS.aload X112.here hx rfl (hb hby d4_135) rfl rfl ?_
    show Steps p.tables e below (T112.setTop (mkF m 137 #[.val (.long q0), .second, .val (.int p1), .val (.int (1 : Int32)), .val (.ref r3), .val (.long q4), .second, .val (.ref b101), .unset, .unset, .unset, .unset, .unset, .unset, .unset] [(.ref r3), (.ref b112), (.ref b112)])) _
    refine st121.trans ?_
    show Steps p.tables e below (T121.setTop (mkF m 140 #[.val (.long q0), .second, .val (.int p1), .val (.int (1 : Int32)), .val (.ref r3), .val (.long q4), .second, .val (.ref b101), .unset, .unset, .unset, .unset, .unset, .unset, .unset] [(.ref b112)])) _
    refine XS.astore X121.here hx rfl (hb hby d4_140) rfl rfl (l' := #[.val (.long q0), .second, .val (.int p1), .val (.int (1 : Int32)), .val (.ref r3), .val (.long q4), .second, .val (.ref b101), .val (.ref b112), .unset, .unset, .unset, .unset, .unset, .unset]) rfl ?_
    show Steps p.tables e below (T121.setTop (mkF m 142 #[.val (.long q0), .second, .val (.int p1), .val (.int (1 : Int32)), .val (.ref r3), .val (.long q4), .second, .val (.ref b101), .val (.ref b112), .unset, .unset, .unset, .unset, .unset, .unset] [])) _
    refine XS.lloadN X121.here hx rfl (hb hby d4_142) rfl ?_
    refine XS.lstore X121.here hx rfl (hb hby d4_143) rfl (l' := #[.val (.long q0), .second, .val (.int p1), .val (.int (1 : Int32)), .val (.ref r3), .val (.long q4), .second, .val (.ref b101), .val (.ref b112), .val (.long q0), .second, .unset, .unset, .unset, .unset]) rfl ?_
    show Steps p.tables e below (T121.setTop (mkF m 145 #[.val (.long q0), .second, .val (.int p1), .val (.int (1 : Int32)), .val (.ref r3), .val (.long q4), .second, .val (.ref b101), .val (.ref b112), .val (.long q0), .second, .unset, .unset, .unset, .unset] [])) _
    refine XS.iconst X121.here hx rfl (hb hby d4_145) ?_
    refine XS.istore X121.here hx rfl (hb hby d4_146) rfl (l' := #[.val (.long q0), .second, .val (.int p1), .val (.int (1 : Int32)), .val (.ref r3), .val (.long q4), .second, .val (.ref b101), .val (.ref b112), .val (.long q0), .second, .val (.int (1 : Int32)), .unset, .unset, .unset]) rfl ?_
    show Steps p.tables e below (T121.setTop (mkF m 148 #[.val (.long q0), .second, .val (.int p1), .val (.int (1 : Int32)), .val (.ref r3), .val (.long q4), .second, .val (.ref b101), .val (.ref b112), .val (.long q0), .second, .val (.int (1 : Int32)), .unset, .unset, .unset] [])) _
    refine XS.iload X121.here hx rfl (hb hby d4_148) rfl ?_
    refine XS.iloadN X121.here hx rfl (hb hby d4_150) rfl ?_
    refine XS.icmpNo X121.here hx rfl (hb hby d4_151) rfl (flt (by decide : ¬ ((1 : Int32) < (1 : Int32)))).2.2.1 ?_
    show Steps p.tables e below (T121.setTop (mkF m 154 #[.val (.long q0), .second, .val (.int p1), .val (.int (1 : Int32)), .val (.ref r3), .val (.long q4), .second, .val (.ref b101), .val (.ref b112), .val (.long q0), .second, .val (.int (1 : Int32)), .unset, .unset, .unset] [])) _
    refine XS.aload X121.here hx rfl (hb hby d4_154) rfl rfl ?_
    show Steps p.tables e below (T121.setTop (mkF m 156 #[.val (.long q0), .second, .val (.int p1), .val (.int (1 : Int32)), .val (.ref r3), .val (.long q4), .second, .val (.ref b101), .val (.ref b112), .val (.long q0), .second, .val (.int (1 : Int32)), .unset, .unset, .unset] [(.ref b112)])) _
    refine st127.trans ?_
    show Steps p.tables e below (T127.setTop (mkF m 159 #[.val (.long q0), .second, .val (.int p1), .val (.int (1 : Int32)), .val (.ref r3), .val (.long q4), .second, .val (.ref b101), .val (.ref b112), .val (.long q0), .second, .val (.int (1 : Int32)), .unset, .unset, .unset] [(.long z1)])) _
    refine XS.lstore X127.here hx rfl (hb hby d4_159) rfl (l' := #[.val (.long q0), .second, .val (.int p1), .val (.int (1 : Int32)), .val (.ref r3), .val (.long q4), .second, .val (.ref b101), .val (.ref b112), .val (.long q0), .second, .val (.int (1 : Int32)), .val (.long z1), .second, .unset]) rfl ?_
    show Steps p.tables e below (T127.setTop (mkF m 161 #[.val (.long q0), .second, .val (.int p1), .val (.int (1 : Int32)), .val (.ref r3), .val (.long q4), .second, .val (.ref b101), .val (.ref b112), .val (.long q0), .second, .val (.int (1 : Int32)), .val (.long z1), .second, .unset] [])) _
    refine XS.aload X127.here hx rfl (hb hby d4_161) rfl rfl ?_
    refine XS.iloadN X127.here hx rfl (hb hby d4_163) rfl ?_
    show Steps p.tables e below (T127.setTop (mkF m 164 #[.val (.long q0), .second, .val (.int p1), .val (.int (1 : Int32)), .val (.ref r3), .val (.long q4), .second, .val (.ref b101), .val (.ref b112), .val (.long q0), .second, .val (.int (1 : Int32)), .val (.long z1), .second, .unset] [(.int p1), (.ref b112)])) _
    refine st133.trans ?_
    show Steps p.tables e below (T133.setTop (mkF m 167 #[.val (.long q0), .second, .val (.int p1), .val (.int (1 : Int32)), .val (.ref r3), .val (.long q4), .second, .val (.ref b101), .val (.ref b112), .val (.long q0), .second, .val (.int (1 : Int32)), .val (.long z1), .second, .unset] [(.int y1)])) _
    refine XS.istore X133.here hx rfl (hb hby d4_167) rfl (l' := #[.val (.long q0), .second, .val (.int p1), .val (.int (1 : Int32)), .val (.ref r3), .val (.long q4), .second, .val (.ref b101), .val (.ref b112), .val (.long q0), .second, .val (.int (1 : Int32)), .val (.long z1), .second, .val (.int y1)]) rfl ?_
    show Steps p.tables e below (T133.setTop (mkF m 169 #[.val (.long q0), .second, .val (.int p1), .val (.int (1 : Int32)), .val (.ref r3), .val (.long q4), .second, .val (.ref b101), .val (.ref b112), .val (.long q0), .second, .val (.int (1 : Int32)), .val (.long z1), .second, .val (.int y1)] [])) _
    refine XS.iload X133.here hx rfl (hb hby d4_169) rfl ?_
    refine XS.ifYes X133.here hx rfl (pc0 := 171) (pc' := 195) rfl (hb hby d4_171) rfl ((if0 _ _).trans (flt (own_ynn hy1)).2.1) (by decide) (by decide) ?_
    show Steps p.tables e below (T133.setTop (mkF m 195 #[.val (.long q0), .second, .val (.int p1), .val (.int (1 : Int32)), .val (.ref r3), .val (.long q4), .second, .val (.ref b101), .val (.ref b112), .val (.long q0), .second, .val (.int (1 : Int32)), .val (.long z1), .second, .val (.int y1)] [])) _
    refine XS.lload X133.here hx rfl (hb hby d4_195) rfl ?_
    refine XS.lload X133.here hx rfl (hb hby d4_197) rfl ?_
    refine XS.iloadN X133.here hx rfl (hb hby d4_199) rfl ?_
    show Steps p.tables e below (T133.setTop (mkF m 200 #[.val (.long q0), .second, .val (.int p1), .val (.int (1 : Int32)), .val (.ref r3), .val (.long q4), .second, .val (.ref b101), .val (.ref b112), .val (.long q0), .second, .val (.int (1 : Int32)), .val (.long z1), .second, .val (.int y1)] [(.int p1), (.long z1), (.long q0)])) _
    refine XS.lshl X133.here hx rfl (hb hby d4_200) rfl ?_
    show Steps p.tables e below (T133.setTop (mkF m 201 #[.val (.long q0), .second, .val (.int p1), .val (.int (1 : Int32)), .val (.ref r3), .val (.long q4), .second, .val (.ref b101), .val (.ref b112), .val (.long q0), .second, .val (.int (1 : Int32)), .val (.long z1), .second, .val (.int y1)] [(.long (z1 <<< (p1 &&& 0x3f).toInt64)), (.long q0)])) _
    refine XS.iload X133.here hx rfl (hb hby d4_201) rfl ?_
    refine XS.i2l X133.here hx rfl (hb hby d4_203) rfl ?_
    show Steps p.tables e below (T133.setTop (mkF m 204 #[.val (.long q0), .second, .val (.int p1), .val (.int (1 : Int32)), .val (.ref r3), .val (.long q4), .second, .val (.ref b101), .val (.ref b112), .val (.long q0), .second, .val (.int (1 : Int32)), .val (.long z1), .second, .val (.int y1)] [(.long (y1.toInt64)), (.long (z1 <<< (p1 &&& 0x3f).toInt64)), (.long q0)])) _
    refine XS.lor X133.here hx rfl (hb hby d4_204) rfl ?_
    show Steps p.tables e below (T133.setTop (mkF m 205 #[.val (.long q0), .second, .val (.int p1), .val (.int (1 : Int32)), .val (.ref r3), .val (.long q4), .second, .val (.ref b101), .val (.ref b112), .val (.long q0), .second, .val (.int (1 : Int32)), .val (.long z1), .second, .val (.int y1)] [(.long ((z1 <<< (p1 &&& 0x3f).toInt64) ||| (y1.toInt64))), (.long q0)])) _
    refine XS.ladd X133.here hx rfl (hb hby d4_205) rfl ?_
    show Steps p.tables e below (T133.setTop (mkF m 206 #[.val (.long q0), .second, .val (.int p1), .val (.int (1 : Int32)), .val (.ref r3), .val (.long q4), .second, .val (.ref b101), .val (.ref b112), .val (.long q0), .second, .val (.int (1 : Int32)), .val (.long z1), .second, .val (.int y1)] [(.long (q0 + ((z1 <<< (p1 &&& 0x3f).toInt64) ||| (y1.toInt64))))])) _
    rw [← hv4]
    show Steps p.tables e below (T133.setTop (mkF m 206 #[.val (.long q0), .second, .val (.int p1), .val (.int (1 : Int32)), .val (.ref r3), .val (.long q4), .second, .val (.ref b101), .val (.ref b112), .val (.long q0), .second, .val (.int (1 : Int32)), .val (.long z1), .second, .val (.int y1)] [(.long v4)])) _
    refine XS.lstore X133.here hx rfl (hb hby d4_206) rfl (l' := #[.val (.long q0), .second, .val (.int p1), .val (.int (1 : Int32)), .val (.ref r3), .val (.long q4), .second, .val (.ref b101), .val (.ref b112), .val (.long v4), .second, .val (.int (1 : Int32)), .val (.long z1), .second, .val (.int y1)]) rfl ?_
    show Steps p.tables e below (T133.setTop (mkF m 208 #[.val (.long q0), .second, .val (.int p1), .val (.int (1 : Int32)), .val (.ref r3), .val (.long q4), .second, .val (.ref b101), .val (.ref b112), .val (.long v4), .second, .val (.int (1 : Int32)), .val (.long z1), .second, .val (.int y1)] [])) _
    refine XS.lload X133.here hx rfl (hb hby d4_208) rfl ?_
    refine XS.lload X133.here hx rfl (hb hby d4_210) rfl ?_
    refine XS.lcmp X133.here hx rfl (hb hby d4_212) rfl ?_
    show Steps p.tables e below (T133.setTop (mkF m 213 #[.val (.long q0), .second, .val (.int p1), .val (.int (1 : Int32)), .val (.ref r3), .val (.long q4), .second, .val (.ref b101), .val (.ref b112), .val (.long v4), .second, .val (.int (1 : Int32)), .val (.long z1), .second, .val (.int y1)] [(.int (lcmpW v4 q4))])) _
    refine XS.ifYes X133.here hx rfl (pc0 := 213) (pc' := 235) rfl (hb hby d4_213) rfl ((if0 _ _).trans (flt (own_lc_ngt (by rw [hv4]; exact hm1))).2.2.2) (by decide) (by decide) ?_
    show Steps p.tables e below (T133.setTop (mkF m 235 #[.val (.long q0), .second, .val (.int p1), .val (.int (1 : Int32)), .val (.ref r3), .val (.long q4), .second, .val (.ref b101), .val (.ref b112), .val (.long v4), .second, .val (.int (1 : Int32)), .val (.long z1), .second, .val (.int y1)] [])) _
    refine XS.aload X133.here hx rfl (hb hby d4_235) rfl rfl ?_
    refine XS.iload X133.here hx rfl (hb hby d4_237) rfl ?_
    refine XS.lload X133.here hx rfl (hb hby d4_239) rfl ?_
    show Steps p.tables e below (T133.setTop (mkF m 241 #[.val (.long q0), .second, .val (.int p1), .val (.int (1 : Int32)), .val (.ref r3), .val (.long q4), .second, .val (.ref b101), .val (.ref b112), .val (.long v4), .second, .val (.int (1 : Int32)), .val (.long z1), .second, .val (.int y1)] [(.long v4), (.int (1 : Int32)), (.ref b101)])) _
    refine XS.l2i X133.here hx rfl (hb hby d4_241) rfl ?_
    show Steps p.tables e below (T133.setTop (mkF m 242 #[.val (.long q0), .second, .val (.int p1), .val (.int (1 : Int32)), .val (.ref r3), .val (.long q4), .second, .val (.ref b101), .val (.ref b112), .val (.long v4), .second, .val (.int (1 : Int32)), .val (.long z1), .second, .val (.int y1)] [(.int (v4.toInt32)), (.int (1 : Int32)), (.ref b101)])) _
    rw [← hv5]
    refine st140 _ ?_
    show Steps p.tables e below (T140.setTop (mkF m 243 #[.val (.long q0), .second, .val (.int p1), .val (.int (1 : Int32)), .val (.ref r3), .val (.long q4), .second, .val (.ref b101), .val (.ref b112), .val (.long v4), .second, .val (.int (1 : Int32)), .val (.long z1), .second, .val (.int y1)] [])) _
    refine XS.iinc X140.here hx rfl (hb hby d4_243) rfl (l' := #[.val (.long q0), .second, .val (.int p1), .val (.int (1 : Int32)), .val (.ref r3), .val (.long q4), .second, .val (.ref b101), .val (.ref b112), .val (.long v4), .second, .val (.int ((1 : Int32) + (1 : Int32))), .val (.long z1), .second, .val (.int y1)]) rfl ?_
    rw [show ((1 : Int32) + (1 : Int32)) = (2 : Int32) from by decide]
    show Steps p.tables e below (T140.setTop (mkF m 246 #[.val (.long q0), .second, .val (.int p1), .val (.int (1 : Int32)), .val (.ref r3), .val (.long q4), .second, .val (.ref b101), .val (.ref b112), .val (.long v4), .second, .val (.int (2 : Int32)), .val (.long z1), .second, .val (.int y1)] [])) _
    refine XS.goto X140.here hx rfl (pc0 := 246) (pc' := 148) rfl (hb hby d4_246) (by decide) (by decide) ?_
    show Steps p.tables e below (T140.setTop (mkF m 148 #[.val (.long q0), .second, .val (.int p1), .val (.int (1 : Int32)), .val (.ref r3), .val (.long q4), .second, .val (.ref b101), .val (.ref b112), .val (.long v4), .second, .val (.int (2 : Int32)), .val (.long z1), .second, .val (.int y1)] [])) _
    refine XS.iload X140.here hx rfl (hb hby d4_148) rfl ?_
    refine XS.iloadN X140.here hx rfl (hb hby d4_150) rfl ?_
    refine XS.icmpYes X140.here hx rfl (pc0 := 151) (pc' := 249) rfl (hb hby d4_151) rfl (tlt (by decide : (1 : Int32) < (2 : Int32))).2.2.1 (by decide) (by decide) ?_
    show Steps p.tables e below (T140.setTop (mkF m 249 #[.val (.long q0), .second, .val (.int p1), .val (.int (1 : Int32)), .val (.ref r3), .val (.long q4), .second, .val (.ref b101), .val (.ref b112), .val (.long v4), .second, .val (.int (2 : Int32)), .val (.long z1), .second, .val (.int y1)] [])) _
    refine XS.aload X140.here hx rfl (hb hby d4_249) rfl rfl ?_
    exact kt
  refine own_go hgo150 ?_
  exact own_retA X140 hx Bd.returns rfl rfl Bd.notSynchronized (hb hby d4_251) (by decide) (by decide) (by rw [e140]; exact ⟨b101, (by rfl), N149, K148, sz_b101, (by subst hv6 hv5 hv4 hv3 hv2 hv1; exact B140n)⟩)
theorem ef_dc2 (m : MethodId) (q0 : Int64) (p1 : Int32) (p2 : Int32) (r3 : Addr) (q4 : Int64) : entryFrame m #[(.long q0), (.int p1), (.int p2), (.ref r3), (.long q4)] 15 = mkF m 0 #[.val (.long q0), .second, .val (.int p1), .val (.int p2), .val (.ref r3), .val (.long q4), .second, .unset, .unset, .unset, .unset, .unset, .unset, .unset, .unset] [] := by (first | (simp [entryFrame, mkF, argsToLocals, Value.category]; done) | rfl)
def Qdc2 (Z : State) (q0 : Int64) (p1 : Int32) (p2 : Int32) (r3 : Addr) (q4 : Int64) (f : Nat → Int32) (D : Nat) (cn : Nat) (qe1 : Nat) (z1 : Int64) (y1 : Int32) (qe2 : Nat) (z2 : Int64) (y2 : Int32) (h0 : Heap) (n0 : Nat) (v : Option Value) (h : Heap) (L : List Loc) : Prop := ∃ x0 : Addr, v = some (.ref x0) ∧ Fr n0 L ∧ Keep h0 h [] ∧ h0.size ≤ x0 ∧ own_AI Z h x0 .int 3 (own_up (own_up (own_up (fun _ => (0 : Int32)) 0 (q0.toInt32)) 1 ((q0 + ((z1 <<< (p1 &&& 0x3f).toInt64) ||| (y1.toInt64))).toInt32)) 2 (((q0 + ((z1 <<< (p1 &&& 0x3f).toInt64) ||| (y1.toInt64))) + ((z2 <<< (p1 &&& 0x3f).toInt64) ||| (y2.toInt64))).toInt32))
set_option maxRecDepth 65536 in
set_option maxHeartbeats 40000000 in
theorem rmdc2 (l : Launch) (Z : State) (a0 : Array Value) (hw : ∀ d ∈ tables_1, d.before a0 Z = true) (ws : List Jvm.Cond) (q0 : Int64) (p1 : Int32) (p2 : Int32) (r3 : Addr) (q4 : Int64) (f : Nat → Int32) (D : Nat) (cn : Nat) (qe1 : Nat) (z1 : Int64) (y1 : Int32) (qe2 : Nat) (z2 : Int64) (y2 : Int32) (h0 : Heap) (n0 : Nat) (Z0 : n0 ≤ h0.size) (A_r3 : own_AI Z h0 r3 .byte 24 f) (hf : own_bytes D f) (hn0 : ¬ (q0 < (0 : Int64))) (hm0 : ¬ (q4 < q0)) (hp : p1.toInt = (cn : Int)) (h2 : 2 ≤ cn) (h28 : cn ≤ 28) (hPE : ((0 + qe1 + 1 + cn) + qe2 + 1 + cn) ≤ 192) (hq1 : D / 2 ^ 0 % 2 ^ (qe1 + 1) = 2 ^ qe1 - 1) (hy1 : y1.toInt = ((D / 2 ^ (0 + qe1 + 1) % 2 ^ cn : Nat) : Int)) (hz1 : z1.toBitVec.toNat = qe1) (hm1 : ¬ (q4 < (q0 + ((z1 <<< (p1 &&& 0x3f).toInt64) ||| (y1.toInt64))))) (hq2 : D / 2 ^ (0 + qe1 + 1 + cn) % 2 ^ (qe2 + 1) = 2 ^ qe2 - 1) (hy2 : y2.toInt = ((D / 2 ^ ((0 + qe1 + 1 + cn) + qe2 + 1) % 2 ^ cn : Nat) : Int)) (hz2 : z2.toBitVec.toNat = qe2) (hm2 : ¬ (q4 < ((q0 + ((z1 <<< (p1 &&& 0x3f).toInt64) ||| (y1.toInt64))) + ((z2 <<< (p1 &&& 0x3f).toInt64) ||| (y2.toInt64))))) (hn : p2 = (2 : Int32)) :
    MetFree l (⟨"com/example/canonic/canonic/RiceCode", "decode", "(JII[BJ)[I"⟩ : MethodName) (head1 (Jvm.Cond.code (⟨"com/example/canonic/canonic/RiceCode", "decode", "(JII[BJ)[I"⟩ : MethodName) prog_38_method_2_code 15 (some (.array .int)) :: ws) ({ frames := 3, cells := 2, slots := 7, locals := 55 } : Room)) (fun a U => a = #[(.long q0), (.int p1), (.int p2), (.ref r3), (.long q4)] ∧ Z.Warmed39 U.vm ∧ U.heap = h0) (fun _ _ _ _ _ => True) (fun _ U o U' => ∃ v L, o = .returned v ∧ Qdc2 Z q0 p1 p2 r3 q4 f D cn qe1 z1 y1 qe2 z2 y2 h0 n0 v U'.heap L ∧ FrameEnd U o U' L ({ frames := 3, cells := 2, slots := 7, locals := 55 } : Room).cells ({ frames := 3, cells := 2, slots := 7, locals := 55 } : Room).slots) := by
  refine MetFree.of_bodySF (plainFor_of_name pn8) hisR ?_
  intro p e s m args below meth c s₁ Bd hml0 hP hK
  obtain ⟨rfl, hZ, hh⟩ := hP
  have hx := Bd.exec
  have hby := Bd.bytes
  have hml : c.maxLocals = 15 := hml0
  have hown : s.vm.findClass "com/example/canonic/canonic/RiceCode" = some m.cls := findClass_of_methodNamed Bd.named
  have hnm := (name_of_methodNamed Bd.named Bd.method).1
  have X0 : Stand p l e ({ frames := 3, cells := 2, slots := 7, locals := 55 } : Room) s m #[(.long q0), (.int p1), (.int p2), (.ref r3), (.long q4)] below meth c s₁ [] 0 0 := Stand.of_body Bd
  have e0 : s₁.heap = h0 := by rw [← hh, Bd.state]; rfl
  have N0 := Fr.nil n0
  have K0 : Keep h0 h0 [] := Keep.refl h0 _
  show own_Go p e below s (Qdc2 Z q0 p1 p2 r3 q4 f D cn qe1 z1 y1 qe2 z2 y2 h0 n0) ({ frames := 3, cells := 2, slots := 7, locals := 55 } : Room).cells ({ frames := 3, cells := 2, slots := 7, locals := 55 } : Room).slots (s₁.setTop (entryFrame m #[(.long q0), (.int p1), (.int p2), (.ref r3), (.long q4)] 15))
  refine own_go (fun t k => castTop (ef_dc2 m q0 p1 p2 r3 q4) k) ?_
  obtain ⟨T101, h101, k101, X101, e101, E101, A101, st101⟩ := newP X0 hx hZ (hw _ (List.mem_of_getElem? (i := 22) rfl)) e0 (g := (mkF m 121 #[.val (.long q0), .second, .val (.int p1), .val (.int (2 : Int32)), .val (.ref r3), .val (.long q4), .second, .unset, .unset, .unset, .unset, .unset, .unset, .unset, .unset] [(.int (3 : Int32))])) rfl (hb hby d4_121) rfl (by decide) (cap := 3) (by decide) (by decide) (by decide) (by decide)
  obtain ⟨b101, g101⟩ : ∃ z, z = h0.size := ⟨_, rfl⟩
  rw [← g101] at A101 st101
  have ne_r3_b101 : r3 ≠ b101 := Nat.ne_of_lt (Nat.lt_of_lt_of_le A_r3.lt (Nat.le_of_eq g101.symm))
  have g_b101 : n0 ≤ b101 := Nat.le_trans Z0 (Nat.le_of_eq g101.symm)
  have sz_b101 : h0.size ≤ b101 := Nat.le_trans K0.1 (Nat.le_of_eq g101.symm)
  have F102 := A_r3.ext E101
  have Z103 : n0 ≤ h101.size := Nat.le_trans Z0 E101.1
  have K104 : Keep h0 h101 [] := K0.ext E101
  obtain ⟨v1, hv1⟩ : ∃ z : Nat → Int32, z = (fun _ => (0 : Int32)) := ⟨_, rfl⟩
  have F105 : own_AI Z h101 b101 .int 3 v1 := by rw [hv1]; exact own_AI.new A101 rfl (by decide)
  obtain ⟨v2, hv2⟩ : ∃ z : Int32, z = (q0.toInt32) := ⟨_, rfl⟩
  have hin130_106 : ¬ (0 : Int32) < 0 ∧ (0 : Int32).toNatClampNeg < 3 := by decide
  obtain ⟨T107, h107, X107, e107, W107, B107, st107⟩ := own_stI X101 hx hZ e101 F105 (j := (0 : Int32)) (x := v2) hin130_106 (g := (mkF m 130 #[.val (.long q0), .second, .val (.int p1), .val (.int (2 : Int32)), .val (.ref r3), .val (.long q4), .second, .val (.ref b101), .unset, .unset, .unset, .unset, .unset, .unset, .unset] [(.int v2), (.int (0 : Int32)), (.ref b101)])) rfl rfl (hb hby d4_130)
  obtain ⟨v3, hv3⟩ : ∃ z : Nat → Int32, z = (own_up v1 0 v2) := ⟨_, rfl⟩
  have B107n : own_AI Z h107 b101 .int 3 v3 := by rw [hv3]; exact B107
  have F108 := F102.other W107 ne_r3_b101
  have Z109 : n0 ≤ h107.size := Nat.le_trans Z103 (Keep.of_wr W107).1
  have K110 : Keep h0 h107 [] := K104.wr W107 (Or.inr sz_b101)
  have N111 := Fr.snoc X107 N0 g_b101
  obtain ⟨T112, h112, X112, e112, E112, A112, D112, -, st112⟩ := newO X107 hx hZ hown (hw _ (List.mem_of_getElem? (i := 23) rfl)) (hw _ (List.mem_of_getElem? (i := 24) rfl)) (hw _ (List.mem_of_getElem? (i := 25) rfl)) e107 (g := (mkF m 131 #[.val (.long q0), .second, .val (.int p1), .val (.int (2 : Int32)), .val (.ref r3), .val (.long q4), .second, .val (.ref b101), .unset, .unset, .unset, .unset, .unset, .unset, .unset] [])) rfl (hb hby d4_131) (by decide) (by decide)
  obtain ⟨b112, g112⟩ : ∃ z, z = h107.size := ⟨_, rfl⟩
  rw [← g112] at A112 D112 st112
  have ne_r3_b112 : r3 ≠ b112 := Nat.ne_of_lt (Nat.lt_of_lt_of_le F108.lt (Nat.le_of_eq g112.symm))
  have ne_b101_b112 : b101 ≠ b112 := Nat.ne_of_lt (Nat.lt_of_lt_of_le B107n.lt (Nat.le_of_eq g112.symm))
  have g_b112 : n0 ≤ b112 := Nat.le_trans Z109 (Nat.le_of_eq g112.symm)
  have sz_b112 : h0.size ≤ b112 := Nat.le_trans K110.1 (Nat.le_of_eq g112.symm)
  have F113 := F108.ext E112
  have F114 := B107n.ext E112
  have Z115 : n0 ≤ h112.size := Nat.le_trans Z109 E112.1
  have K116 : Keep h0 h112 [] := K110.ext E112
  have F117 : Fld Z h112 b112 "com/example/canonic/canonic/RiceCode$Bits" "data" "[B" .null := D112 (Or.inr (hw _ (List.mem_of_getElem? (i := 33) rfl))) (ty := (.array .byte)) (by decide)
  have F118 : Fld Z h112 b112 "com/example/canonic/canonic/RiceCode$Bits" "buffered" "I" (.int (0 : Int32)) := D112 (Or.inl (hw _ (List.mem_of_getElem? (i := 44) rfl))) (ty := .int) (by decide)
  have F119 : Fld Z h112 b112 "com/example/canonic/canonic/RiceCode$Bits" "next" "I" (.int (0 : Int32)) := D112 (Or.inl (hw _ (List.mem_of_getElem? (i := 46) rfl))) (ty := .int) (by decide)
  have F120 : Fld Z h112 b112 "com/example/canonic/canonic/RiceCode$Bits" "buffer" "J" (.long (0 : Int64)) := D112 (Or.inl (hw _ (List.mem_of_getElem? (i := 48) rfl))) (ty := .long) (by decide)
  obtain ⟨_, _, ⟨T121, L121, k121, n121⟩, -, X121, ⟨Lc121, hQ121, l121, y121, z121⟩, st121⟩ := own_specialBackR X112 hx hZ (y := (⟨"com/example/canonic/canonic/RiceCode$Bits", "<init>", "([B)V"⟩ : MethodName)) rfl hown (hw _ (List.mem_of_getElem? (i := 26) rfl)) (mvT hZ (hw _ (List.mem_of_getElem? (i := 27) rfl))) (mvT hZ (hw _ (List.mem_of_getElem? (i := 28) rfl))) (by decide) (backOf (W := 1) (rm5 l Z a0 hw [] b112 r3 .null (0 : Int32) (0 : Int32) (0 : Int64) h112 n0 Z115 A112 F117 F118 F119 F120 g_b112) hZ (hw _ (List.mem_of_getElem? (i := 28) rfl)) (hw _ (List.mem_of_getElem? (i := 25) rfl)) (by decide) (by decide)) (g := (mkF m 137 #[.val (.long q0), .second, .val (.int p1), .val (.int (2 : Int32)), .val (.ref r3), .val (.long q4), .second, .val (.ref b101), .unset, .unset, .unset, .unset, .unset, .unset, .unset] [(.ref r3), (.ref b112), (.ref b112)])) rfl (by rw [hml]; rfl) (Steps.refl _) (a := b112) (argsL := [(.ref r3)]) (rest := [(.ref b112)]) (lenOf pd7 rfl) rfl (by show 2 * 0 + _ ≤ _; exact Nat.le_of_eq rfl) (hb hby d4_137) (fun _ _ => ⟨rfl, e112, (by decide : 2 + 0 ≤ _), (by decide : 7 + 0 ≤ _)⟩)
  dsimp only [Pt.U, Pt.locs, Pt.cells, Pt.slots] at X121 l121 y121 z121 st121 hQ121
  subst l121 y121 z121
  obtain ⟨rfl, N121q, K121q, F121_0, F121_1, F121_2, F121_3, F121_4⟩ := hQ121
  have F122 := F113.keep K121q (ninS ne_r3_b112 nin0)
  have F123 := F114.keep K121q (ninS ne_b101_b112 nin0)
  have F124 := A112.keep K121q
  have Z125 : n0 ≤ T121.heap.size := Nat.le_trans Z115 K121q.1
  have K126 : Keep h0 T121.heap [] := K116.trans K121q (allS (Or.inr sz_b112) all0)
  have N121 := Fr.app N111 N121q
  obtain ⟨cq127, kq127, q127a, q127b, q127c⟩ := isOf hZ (rfl : T121.heap = T121.heap) F121_0
  obtain ⟨_, _, ⟨T127, L127, k127, n127⟩, -, X127, ⟨Lc127, hQ127, l127, y127, z127⟩, st127⟩ := X121.virtualBack hx (y := (⟨"com/example/canonic/canonic/RiceCode$Bits", "unary", "()J"⟩ : MethodName)) (z := (⟨"com/example/canonic/canonic/RiceCode$Bits", "unary", "()J"⟩ : MethodName)) hown (mvT hZ (hw _ (List.mem_of_getElem? (i := 34) rfl))) (mvT hZ (hw _ (List.mem_of_getElem? (i := 35) rfl))) (notFace_of_selects (args := #[]) (mvT hZ (hw _ (List.mem_of_getElem? (i := 37) rfl)))) (mvT hZ (hw _ (List.mem_of_getElem? (i := 37) rfl))) (mvT hZ (hw _ (List.mem_of_getElem? (i := 36) rfl))) (by decide) (backOf (W := 0) (rmun l Z a0 hw [] b112 r3 f D 0 (0 : Int32) (0 : Int64) (0 : Int32) qe1 z1 (T121.heap) n0 Z125 F121_0 F121_1 F121_3 F121_4 F121_2 F122 (Ne.symm ne_r3_b112) g_b112 (hf : own_bytes D f) (own_BI0 : own_BI D 0 (0 : Int32) (0 : Int64) (0 : Int32)) (hq1 : D / 2 ^ 0 % 2 ^ (qe1 + 1) = 2 ^ qe1 - 1) (by omega : 0 + qe1 + 1 ≤ 192) (hz1 : z1.toBitVec.toNat = qe1)) hZ (hw _ (List.mem_of_getElem? (i := 38) rfl)) (hw _ (List.mem_of_getElem? (i := 25) rfl)) (by decide) (by decide)) q127a q127c (g := (mkF m 156 #[.val (.long q0), .second, .val (.int p1), .val (.int (2 : Int32)), .val (.ref r3), .val (.long q4), .second, .val (.ref b101), .val (.ref b112), .val (.long q0), .second, .val (.int (1 : Int32)), .unset, .unset, .unset] [(.ref b112)])) rfl (by rw [hml]; rfl) (Steps.refl _) (argsL := []) (rest := []) (lenOf pd9 rfl) rfl (by show 2 * 0 + _ ≤ _; exact Nat.le_of_eq rfl) (hb hby d4_156) (fun _ _ => ⟨rfl, (rfl : T121.heap = T121.heap), (by decide : 2 + 0 ≤ _), (by decide : 7 + 0 ≤ _)⟩)
  dsimp only [Pt.U, Pt.locs, Pt.cells, Pt.slots] at X127 l127 y127 z127 st127 hQ127
  subst l127 y127 z127
  obtain ⟨b127_0, b127_1, b127_2, rfl, N127q, K127q, F127_0, F127_1, F127_2, F127_3, F127_4, F127_5⟩ := hQ127
  have F128 := F122.keep K127q (ninS ne_r3_b112 nin0)
  have F129 := F123.keep K127q (ninS ne_b101_b112 nin0)
  have F130 := F121_0.keep K127q
  have Z131 : n0 ≤ T127.heap.size := Nat.le_trans Z125 K127q.1
  have K132 : Keep h0 T127.heap [] := K126.trans K127q (allS (Or.inr sz_b112) all0)
  have N127 := Fr.app N121 N127q
  obtain ⟨cq133, kq133, q133a, q133b, q133c⟩ := isOf hZ (rfl : T127.heap = T127.heap) F127_0
  obtain ⟨_, _, ⟨T133, L133, k133, n133⟩, -, X133, ⟨Lc133, hQ133, l133, y133, z133⟩, st133⟩ := X127.virtualBack hx (y := (⟨"com/example/canonic/canonic/RiceCode$Bits", "read", "(I)I"⟩ : MethodName)) (z := (⟨"com/example/canonic/canonic/RiceCode$Bits", "read", "(I)I"⟩ : MethodName)) hown (mvT hZ (hw _ (List.mem_of_getElem? (i := 60) rfl))) (mvT hZ (hw _ (List.mem_of_getElem? (i := 61) rfl))) (notFace_of_selects (args := #[]) (mvT hZ (hw _ (List.mem_of_getElem? (i := 63) rfl)))) (mvT hZ (hw _ (List.mem_of_getElem? (i := 63) rfl))) (mvT hZ (hw _ (List.mem_of_getElem? (i := 62) rfl))) (by decide) (backOf (W := 0) (rmrd l Z a0 hw [] b112 p1 r3 f D (0 + qe1 + 1) b127_0 b127_1 b127_2 cn y1 (T127.heap) n0 Z131 F127_0 F127_1 F127_2 F127_3 F127_4 F128 (Ne.symm ne_r3_b112) g_b112 (hf : own_bytes D f) (F127_5 : own_BI D (0 + qe1 + 1) b127_0 b127_1 b127_2) (hp : p1.toInt = (cn : Int)) (h28 : cn ≤ 28) (by omega : (0 + qe1 + 1) + cn ≤ 192) (hy1 : y1.toInt = ((D / 2 ^ (0 + qe1 + 1) % 2 ^ cn : Nat) : Int))) hZ (hw _ (List.mem_of_getElem? (i := 64) rfl)) (hw _ (List.mem_of_getElem? (i := 25) rfl)) (by decide) (by decide)) q133a q133c (g := (mkF m 164 #[.val (.long q0), .second, .val (.int p1), .val (.int (2 : Int32)), .val (.ref r3), .val (.long q4), .second, .val (.ref b101), .val (.ref b112), .val (.long q0), .second, .val (.int (1 : Int32)), .val (.long z1), .second, .unset] [(.int p1), (.ref b112)])) rfl (by rw [hml]; rfl) (Steps.refl _) (argsL := [(.int p1)]) (rest := []) (lenOf pd1 rfl) rfl (by show 2 * 0 + _ ≤ _; exact Nat.le_of_eq rfl) (hb hby d4_164) (fun _ _ => ⟨rfl, (rfl : T127.heap = T127.heap), (by decide : 2 + 0 ≤ _), (by decide : 7 + 0 ≤ _)⟩)
  dsimp only [Pt.U, Pt.locs, Pt.cells, Pt.slots] at X133 l133 y133 z133 st133 hQ133
  subst l133 y133 z133
  obtain ⟨b133_0, b133_1, b133_2, rfl, N133q, K133q, F133_0, F133_1, F133_2, F133_3, F133_4, F133_5⟩ := hQ133
  have F134 := F128.keep K133q (ninS ne_r3_b112 nin0)
  have F135 := F129.keep K133q (ninS ne_b101_b112 nin0)
  have F136 := F127_0.keep K133q
  have Z137 : n0 ≤ T133.heap.size := Nat.le_trans Z131 K133q.1
  have K138 : Keep h0 T133.heap [] := K132.trans K133q (allS (Or.inr sz_b112) all0)
  have N133 := Fr.app N127 N133q
  obtain ⟨v4, hv4⟩ : ∃ z : Int64, z = (q0 + ((z1 <<< (p1 &&& 0x3f).toInt64) ||| (y1.toInt64))) := ⟨_, rfl⟩
  obtain ⟨v5, hv5⟩ : ∃ z : Int32, z = (v4.toInt32) := ⟨_, rfl⟩
  have hin242_139 : ¬ (1 : Int32) < 0 ∧ (1 : Int32).toNatClampNeg < 3 := by decide
  obtain ⟨T140, h140, X140, e140, W140, B140, st140⟩ := own_stI X133 hx hZ (rfl : T133.heap = T133.heap) F135 (j := (1 : Int32)) (x := v5) hin242_139 (g := (mkF m 242 #[.val (.long q0), .second, .val (.int p1), .val (.int (2 : Int32)), .val (.ref r3), .val (.long q4), .second, .val (.ref b101), .val (.ref b112), .val (.long v4), .second, .val (.int (1 : Int32)), .val (.long z1), .second, .val (.int y1)] [(.int v5), (.int (1 : Int32)), (.ref b101)])) rfl rfl (hb hby d4_242)
  obtain ⟨v6, hv6⟩ : ∃ z : Nat → Int32, z = (own_up v3 1 v5) := ⟨_, rfl⟩
  have B140n : own_AI Z h140 b101 .int 3 v6 := by rw [hv6]; exact B140
  have F141 := F134.other W140 ne_r3_b101
  have F142 := F133_0.wr W140
  have F143 := F133_1.other W140 (Or.inl (Ne.symm ne_b101_b112))
  have F144 := F133_2.other W140 (Or.inl (Ne.symm ne_b101_b112))
  have F145 := F133_3.other W140 (Or.inl (Ne.symm ne_b101_b112))
  have F146 := F133_4.other W140 (Or.inl (Ne.symm ne_b101_b112))
  have Z147 : n0 ≤ h140.size := Nat.le_trans Z137 (Keep.of_wr W140).1
  have K148 : Keep h0 h140 [] := K138.wr W140 (Or.inr sz_b101)
  have N149 := Fr.snoc X140 N133 g_b101
  obtain ⟨cq150, kq150, q150a, q150b, q150c⟩ := isOf hZ e140 F142
  obtain ⟨_, _, ⟨T150, L150, k150, n150⟩, -, X150, ⟨Lc150, hQ150, l150, y150, z150⟩, st150⟩ := X140.virtualBack hx (y := (⟨"com/example/canonic/canonic/RiceCode$Bits", "unary", "()J"⟩ : MethodName)) (z := (⟨"com/example/canonic/canonic/RiceCode$Bits", "unary", "()J"⟩ : MethodName)) hown (mvT hZ (hw _ (List.mem_of_getElem? (i := 34) rfl))) (mvT hZ (hw _ (List.mem_of_getElem? (i := 35) rfl))) (notFace_of_selects (args := #[]) (mvT hZ (hw _ (List.mem_of_getElem? (i := 37) rfl)))) (mvT hZ (hw _ (List.mem_of_getElem? (i := 37) rfl))) (mvT hZ (hw _ (List.mem_of_getElem? (i := 36) rfl))) (by decide) (backOf (W := 0) (rmun l Z a0 hw [] b112 r3 f D (0 + qe1 + 1 + cn) b133_0 b133_1 b133_2 qe2 z2 h140 n0 Z147 F142 F143 F144 F145 F146 F141 (Ne.symm ne_r3_b112) g_b112 (hf : own_bytes D f) (F133_5 : own_BI D (0 + qe1 + 1 + cn) b133_0 b133_1 b133_2) (hq2 : D / 2 ^ (0 + qe1 + 1 + cn) % 2 ^ (qe2 + 1) = 2 ^ qe2 - 1) (by omega : (0 + qe1 + 1 + cn) + qe2 + 1 ≤ 192) (hz2 : z2.toBitVec.toNat = qe2)) hZ (hw _ (List.mem_of_getElem? (i := 38) rfl)) (hw _ (List.mem_of_getElem? (i := 25) rfl)) (by decide) (by decide)) q150a q150c (g := (mkF m 156 #[.val (.long q0), .second, .val (.int p1), .val (.int (2 : Int32)), .val (.ref r3), .val (.long q4), .second, .val (.ref b101), .val (.ref b112), .val (.long v4), .second, .val (.int (2 : Int32)), .val (.long z1), .second, .val (.int y1)] [(.ref b112)])) rfl (by rw [hml]; rfl) (Steps.refl _) (argsL := []) (rest := []) (lenOf pd9 rfl) rfl (by show 2 * 0 + _ ≤ _; exact Nat.le_of_eq rfl) (hb hby d4_156) (fun _ _ => ⟨rfl, e140, (by decide : 2 + 0 ≤ _), (by decide : 7 + 0 ≤ _)⟩)
  dsimp only [Pt.U, Pt.locs, Pt.cells, Pt.slots] at X150 l150 y150 z150 st150 hQ150
  subst l150 y150 z150
  obtain ⟨b150_0, b150_1, b150_2, rfl, N150q, K150q, F150_0, F150_1, F150_2, F150_3, F150_4, F150_5⟩ := hQ150
  have F151 := F141.keep K150q (ninS ne_r3_b112 nin0)
  have F152 := F142.keep K150q
  have F153 := B140n.keep K150q (ninS ne_b101_b112 nin0)
  have Z154 : n0 ≤ T150.heap.size := Nat.le_trans Z147 K150q.1
  have K155 : Keep h0 T150.heap [] := K148.trans K150q (allS (Or.inr sz_b112) all0)
  have N150 := Fr.app N149 N150q
  obtain ⟨cq156, kq156, q156a, q156b, q156c⟩ := isOf hZ (rfl : T150.heap = T150.heap) F150_0
  obtain ⟨_, _, ⟨T156, L156, k156, n156⟩, -, X156, ⟨Lc156, hQ156, l156, y156, z156⟩, st156⟩ := X150.virtualBack hx (y := (⟨"com/example/canonic/canonic/RiceCode$Bits", "read", "(I)I"⟩ : MethodName)) (z := (⟨"com/example/canonic/canonic/RiceCode$Bits", "read", "(I)I"⟩ : MethodName)) hown (mvT hZ (hw _ (List.mem_of_getElem? (i := 60) rfl))) (mvT hZ (hw _ (List.mem_of_getElem? (i := 61) rfl))) (notFace_of_selects (args := #[]) (mvT hZ (hw _ (List.mem_of_getElem? (i := 63) rfl)))) (mvT hZ (hw _ (List.mem_of_getElem? (i := 63) rfl))) (mvT hZ (hw _ (List.mem_of_getElem? (i := 62) rfl))) (by decide) (backOf (W := 0) (rmrd l Z a0 hw [] b112 p1 r3 f D ((0 + qe1 + 1 + cn) + qe2 + 1) b150_0 b150_1 b150_2 cn y2 (T150.heap) n0 Z154 F150_0 F150_1 F150_2 F150_3 F150_4 F151 (Ne.symm ne_r3_b112) g_b112 (hf : own_bytes D f) (F150_5 : own_BI D ((0 + qe1 + 1 + cn) + qe2 + 1) b150_0 b150_1 b150_2) (hp : p1.toInt = (cn : Int)) (h28 : cn ≤ 28) (by omega : ((0 + qe1 + 1 + cn) + qe2 + 1) + cn ≤ 192) (hy2 : y2.toInt = ((D / 2 ^ ((0 + qe1 + 1 + cn) + qe2 + 1) % 2 ^ cn : Nat) : Int))) hZ (hw _ (List.mem_of_getElem? (i := 64) rfl)) (hw _ (List.mem_of_getElem? (i := 25) rfl)) (by decide) (by decide)) q156a q156c (g := (mkF m 164 #[.val (.long q0), .second, .val (.int p1), .val (.int (2 : Int32)), .val (.ref r3), .val (.long q4), .second, .val (.ref b101), .val (.ref b112), .val (.long v4), .second, .val (.int (2 : Int32)), .val (.long z2), .second, .val (.int y1)] [(.int p1), (.ref b112)])) rfl (by rw [hml]; rfl) (Steps.refl _) (argsL := [(.int p1)]) (rest := []) (lenOf pd1 rfl) rfl (by show 2 * 0 + _ ≤ _; exact Nat.le_of_eq rfl) (hb hby d4_164) (fun _ _ => ⟨rfl, (rfl : T150.heap = T150.heap), (by decide : 2 + 0 ≤ _), (by decide : 7 + 0 ≤ _)⟩)
  dsimp only [Pt.U, Pt.locs, Pt.cells, Pt.slots] at X156 l156 y156 z156 st156 hQ156
  subst l156 y156 z156
  obtain ⟨b156_0, b156_1, b156_2, rfl, N156q, K156q, F156_0, F156_1, F156_2, F156_3, F156_4, F156_5⟩ := hQ156
  have F157 := F151.keep K156q (ninS ne_r3_b112 nin0)
  have F158 := F150_0.keep K156q
  have F159 := F153.keep K156q (ninS ne_b101_b112 nin0)
  have Z160 : n0 ≤ T156.heap.size := Nat.le_trans Z154 K156q.1
  have K161 : Keep h0 T156.heap [] := K155.trans K156q (allS (Or.inr sz_b112) all0)
  have N156 := Fr.app N150 N156q
  obtain ⟨v7, hv7⟩ : ∃ z : Int64, z = (v4 + ((z2 <<< (p1 &&& 0x3f).toInt64) ||| (y2.toInt64))) := ⟨_, rfl⟩
  obtain ⟨v8, hv8⟩ : ∃ z : Int32, z = (v7.toInt32) := ⟨_, rfl⟩
  have hin242_162 : ¬ (2 : Int32) < 0 ∧ (2 : Int32).toNatClampNeg < 3 := by decide
  obtain ⟨T163, h163, X163, e163, W163, B163, st163⟩ := own_stI X156 hx hZ (rfl : T156.heap = T156.heap) F159 (j := (2 : Int32)) (x := v8) hin242_162 (g := (mkF m 242 #[.val (.long q0), .second, .val (.int p1), .val (.int (2 : Int32)), .val (.ref r3), .val (.long q4), .second, .val (.ref b101), .val (.ref b112), .val (.long v7), .second, .val (.int (2 : Int32)), .val (.long z2), .second, .val (.int y2)] [(.int v8), (.int (2 : Int32)), (.ref b101)])) rfl rfl (hb hby d4_242)
  obtain ⟨v9, hv9⟩ : ∃ z : Nat → Int32, z = (own_up v6 2 v8) := ⟨_, rfl⟩
  have B163n : own_AI Z h163 b101 .int 3 v9 := by rw [hv9]; exact B163
  have F164 := F157.other W163 ne_r3_b101
  have F165 := F156_0.wr W163
  have F166 := F156_1.other W163 (Or.inl (Ne.symm ne_b101_b112))
  have F167 := F156_2.other W163 (Or.inl (Ne.symm ne_b101_b112))
  have F168 := F156_3.other W163 (Or.inl (Ne.symm ne_b101_b112))
  have F169 := F156_4.other W163 (Or.inl (Ne.symm ne_b101_b112))
  have Z170 : n0 ≤ h163.size := Nat.le_trans Z160 (Keep.of_wr W163).1
  have K171 : Keep h0 h163 [] := K161.wr W163 (Or.inr sz_b101)
  have N172 := Fr.snoc X163 N156 g_b101
  have hgo173 : ∀ t, Steps p.tables e below (T163.setTop (mkF m 251 #[.val (.long q0), .second, .val (.int p1), .val (.int (2 : Int32)), .val (.ref r3), .val (.long q4), .second, .val (.ref b101), .val (.ref b112), .val (.long v7), .second, .val (.int (3 : Int32)), .val (.long z2), .second, .val (.int y2)] [(.ref b101)])) t → Steps p.tables e below (s₁.setTop (mkF m 0 #[.val (.long q0), .second, .val (.int p1), .val (.int p2), .val (.ref r3), .val (.long q4), .second, .unset, .unset, .unset, .unset, .unset, .unset, .unset, .unset] [])) t := by
    intro t kt
    show Steps p.tables e below (s₁.setTop (mkF m 0 #[.val (.long q0), .second, .val (.int p1), .val (.int p2), .val (.ref r3), .val (.long q4), .second, .unset, .unset, .unset, .unset, .unset, .unset, .unset, .unset] [])) _
    rw [hn]
    show Steps p.tables e below (s₁.setTop (mkF m 0 #[.val (.long q0), .second, .val (.int p1), .val (.int (2 : Int32)), .val (.ref r3), .val (.long q4), .second, .unset, .unset, .unset, .unset, .unset, .unset, .unset, .unset] [])) _
    refine XS.iloadN X0.here hx rfl (hb hby d4_0) rfl ?_
    refine XS.ifNo X0.here hx rfl (hb hby d4_1) rfl ((if0 _ _).trans (flt (by decide : ¬ ((2 : Int32) < (0 : Int32)))).1) ?_
    show Steps p.tables e below (s₁.setTop (mkF m 4 #[.val (.long q0), .second, .val (.int p1), .val (.int (2 : Int32)), .val (.ref r3), .val (.long q4), .second, .unset, .unset, .unset, .unset, .unset, .unset, .unset, .unset] [])) _
    refine XS.iloadN X0.here hx rfl (hb hby d4_4) rfl ?_
    show Steps p.tables e below (s₁.setTop (mkF m 5 #[.val (.long q0), .second, .val (.int p1), .val (.int (2 : Int32)), .val (.ref r3), .val (.long q4), .second, .unset, .unset, .unset, .unset, .unset, .unset, .unset, .unset] [(.int (2 : Int32))])) _
    refine X0.ldcInt hx hown (mvT hZ (hw _ (List.mem_of_getElem? (i := 20) rfl))) (g := (mkF m 5 #[.val (.long q0), .second, .val (.int p1), .val (.int (2 : Int32)), .val (.ref r3), .val (.long q4), .second, .unset, .unset, .unset, .unset, .unset, .unset, .unset, .unset] [(.int (2 : Int32))])) rfl (hb hby d4_5) _ ?_
    show Steps p.tables e below (s₁.setTop (mkF m 7 #[.val (.long q0), .second, .val (.int p1), .val (.int (2 : Int32)), .val (.ref r3), .val (.long q4), .second, .unset, .unset, .unset, .unset, .unset, .unset, .unset, .unset] [(.int (2147483639 : Int32)), (.int (2 : Int32))])) _
    refine XS.icmpYes X0.here hx rfl (pc0 := 7) (pc' := 24) rfl (hb hby d4_7) rfl (tlt (by decide : (2 : Int32) < (2147483639 : Int32))).1 (by decide) (by decide) ?_
    show Steps p.tables e below (s₁.setTop (mkF m 24 #[.val (.long q0), .second, .val (.int p1), .val (.int (2 : Int32)), .val (.ref r3), .val (.long q4), .second, .unset, .unset, .unset, .unset, .unset, .unset, .unset, .unset] [])) _
    refine XS.iloadN X0.here hx rfl (hb hby d4_24) rfl ?_
    refine XS.ifNo X0.here hx rfl (hb hby d4_25) rfl ((if0 _ _).trans (tlt (by decide : (0 : Int32) < (2 : Int32))).2.2.2) ?_
    show Steps p.tables e below (s₁.setTop (mkF m 28 #[.val (.long q0), .second, .val (.int p1), .val (.int (2 : Int32)), .val (.ref r3), .val (.long q4), .second, .unset, .unset, .unset, .unset, .unset, .unset, .unset, .unset] [])) _
    refine XS.iloadN X0.here hx rfl (hb hby d4_28) rfl ?_
    refine XS.iconst X0.here hx rfl (hb hby d4_29) ?_
    refine XS.icmpNo X0.here hx rfl (hb hby d4_30) rfl (flt (own_lt2 hp h2)).1 ?_
    show Steps p.tables e below (s₁.setTop (mkF m 33 #[.val (.long q0), .second, .val (.int p1), .val (.int (2 : Int32)), .val (.ref r3), .val (.long q4), .second, .unset, .unset, .unset, .unset, .unset, .unset, .unset, .unset] [])) _
    refine XS.iloadN X0.here hx rfl (hb hby d4_33) rfl ?_
    refine XS.bipush X0.here hx rfl (hb hby d4_34) ?_
    refine XS.icmpYes X0.here hx rfl (pc0 := 36) (pc' := 53) rfl (hb hby d4_36) rfl (flt (own_lt28 hp h28)).2.2.2 (by decide) (by decide) ?_
    show Steps p.tables e below (s₁.setTop (mkF m 53 #[.val (.long q0), .second, .val (.int p1), .val (.int (2 : Int32)), .val (.ref r3), .val (.long q4), .second, .unset, .unset, .unset, .unset, .unset, .unset, .unset, .unset] [])) _
    refine XS.lloadN X0.here hx rfl (hb hby d4_53) rfl ?_
    refine XS.lconst X0.here hx rfl (hb hby d4_54) ?_
    refine XS.lcmp X0.here hx rfl (hb hby d4_55) rfl ?_
    show Steps p.tables e below (s₁.setTop (mkF m 56 #[.val (.long q0), .second, .val (.int p1), .val (.int (2 : Int32)), .val (.ref r3), .val (.long q4), .second, .unset, .unset, .unset, .unset, .unset, .unset, .unset, .unset] [(.int (lcmpW q0 (0 : Int64)))])) _
    refine XS.ifNo X0.here hx rfl (hb hby d4_56) rfl ((if0 _ _).trans (flt (own_lc_nlt hn0)).1) ?_
    show Steps p.tables e below (s₁.setTop (mkF m 59 #[.val (.long q0), .second, .val (.int p1), .val (.int (2 : Int32)), .val (.ref r3), .val (.long q4), .second, .unset, .unset, .unset, .unset, .unset, .unset, .unset, .unset] [])) _
    refine XS.lloadN X0.here hx rfl (hb hby d4_59) rfl ?_
    refine XS.lload X0.here hx rfl (hb hby d4_60) rfl ?_
    refine XS.lcmp X0.here hx rfl (hb hby d4_62) rfl ?_
    show Steps p.tables e below (s₁.setTop (mkF m 63 #[.val (.long q0), .second, .val (.int p1), .val (.int (2 : Int32)), .val (.ref r3), .val (.long q4), .second, .unset, .unset, .unset, .unset, .unset, .unset, .unset, .unset] [(.int (lcmpW q0 q4))])) _
    refine XS.ifYes X0.here hx rfl (pc0 := 63) (pc' := 82) rfl (hb hby d4_63) rfl ((if0 _ _).trans (flt (own_lc_ngt hm0)).2.2.2) (by decide) (by decide) ?_
    show Steps p.tables e below (s₁.setTop (mkF m 82 #[.val (.long q0), .second, .val (.int p1), .val (.int (2 : Int32)), .val (.ref r3), .val (.long q4), .second, .unset, .unset, .unset, .unset, .unset, .unset, .unset, .unset] [])) _
    refine XS.iloadN X0.here hx rfl (hb hby d4_82) rfl ?_
    refine XS.i2l X0.here hx rfl (hb hby d4_83) rfl ?_
    show Steps p.tables e below (s₁.setTop (mkF m 84 #[.val (.long q0), .second, .val (.int p1), .val (.int (2 : Int32)), .val (.ref r3), .val (.long q4), .second, .unset, .unset, .unset, .unset, .unset, .unset, .unset, .unset] [(.long ((2 : Int32).toInt64))])) _
    refine XS.iloadN X0.here hx rfl (hb hby d4_84) rfl ?_
    refine XS.iconst X0.here hx rfl (hb hby d4_85) ?_
    refine XS.iadd X0.here hx rfl (hb hby d4_86) rfl ?_
    show Steps p.tables e below (s₁.setTop (mkF m 87 #[.val (.long q0), .second, .val (.int p1), .val (.int (2 : Int32)), .val (.ref r3), .val (.long q4), .second, .unset, .unset, .unset, .unset, .unset, .unset, .unset, .unset] [(.int (p1 + (1 : Int32))), (.long ((2 : Int32).toInt64))])) _
    refine XS.i2l X0.here hx rfl (hb hby d4_87) rfl ?_
    show Steps p.tables e below (s₁.setTop (mkF m 88 #[.val (.long q0), .second, .val (.int p1), .val (.int (2 : Int32)), .val (.ref r3), .val (.long q4), .second, .unset, .unset, .unset, .unset, .unset, .unset, .unset, .unset] [(.long ((p1 + (1 : Int32)).toInt64)), (.long ((2 : Int32).toInt64))])) _
    refine XS.lmul X0.here hx rfl (hb hby d4_88) rfl ?_
    show Steps p.tables e below (s₁.setTop (mkF m 89 #[.val (.long q0), .second, .val (.int p1), .val (.int (2 : Int32)), .val (.ref r3), .val (.long q4), .second, .unset, .unset, .unset, .unset, .unset, .unset, .unset, .unset] [(.long (((2 : Int32).toInt64) * ((p1 + (1 : Int32)).toInt64)))])) _
    refine XS.aload X0.here hx rfl (hb hby d4_89) rfl rfl ?_
    show Steps p.tables e below (s₁.setTop (mkF m 91 #[.val (.long q0), .second, .val (.int p1), .val (.int (2 : Int32)), .val (.ref r3), .val (.long q4), .second, .unset, .unset, .unset, .unset, .unset, .unset, .unset, .unset] [(.ref r3), (.long (((2 : Int32).toInt64) * ((p1 + (1 : Int32)).toInt64)))])) _
    refine own_lenI X0 hx hZ e0 A_r3 (g := (mkF m 91 #[.val (.long q0), .second, .val (.int p1), .val (.int (2 : Int32)), .val (.ref r3), .val (.long q4), .second, .unset, .unset, .unset, .unset, .unset, .unset, .unset, .unset] [(.ref r3), (.long (((2 : Int32).toInt64) * ((p1 + (1 : Int32)).toInt64)))])) rfl rfl (hb hby d4_91) _ ?_
    show Steps p.tables e below (s₁.setTop (mkF m 92 #[.val (.long q0), .second, .val (.int p1), .val (.int (2 : Int32)), .val (.ref r3), .val (.long q4), .second, .unset, .unset, .unset, .unset, .unset, .unset, .unset, .unset] [(.int (24 : Int32)), (.long (((2 : Int32).toInt64) * ((p1 + (1 : Int32)).toInt64)))])) _
    refine XS.i2l X0.here hx rfl (hb hby d4_92) rfl ?_
    show Steps p.tables e below (s₁.setTop (mkF m 93 #[.val (.long q0), .second, .val (.int p1), .val (.int (2 : Int32)), .val (.ref r3), .val (.long q4), .second, .unset, .unset, .unset, .unset, .unset, .unset, .unset, .unset] [(.long ((24 : Int32).toInt64)), (.long (((2 : Int32).toInt64) * ((p1 + (1 : Int32)).toInt64)))])) _
    refine X0.ldc2Long hx hown (mvT hZ (hw _ (List.mem_of_getElem? (i := 21) rfl))) (g := (mkF m 93 #[.val (.long q0), .second, .val (.int p1), .val (.int (2 : Int32)), .val (.ref r3), .val (.long q4), .second, .unset, .unset, .unset, .unset, .unset, .unset, .unset, .unset] [(.long ((24 : Int32).toInt64)), (.long (((2 : Int32).toInt64) * ((p1 + (1 : Int32)).toInt64)))])) rfl (hb hby d4_93) _ ?_
    show Steps p.tables e below (s₁.setTop (mkF m 96 #[.val (.long q0), .second, .val (.int p1), .val (.int (2 : Int32)), .val (.ref r3), .val (.long q4), .second, .unset, .unset, .unset, .unset, .unset, .unset, .unset, .unset] [(.long (8 : Int64)), (.long ((24 : Int32).toInt64)), (.long (((2 : Int32).toInt64) * ((p1 + (1 : Int32)).toInt64)))])) _
    refine XS.lmul X0.here hx rfl (hb hby d4_96) rfl ?_
    show Steps p.tables e below (s₁.setTop (mkF m 97 #[.val (.long q0), .second, .val (.int p1), .val (.int (2 : Int32)), .val (.ref r3), .val (.long q4), .second, .unset, .unset, .unset, .unset, .unset, .unset, .unset, .unset] [(.long (((24 : Int32).toInt64) * (8 : Int64))), (.long (((2 : Int32).toInt64) * ((p1 + (1 : Int32)).toInt64)))])) _
    refine XS.lcmp X0.here hx rfl (hb hby d4_97) rfl ?_
    show Steps p.tables e below (s₁.setTop (mkF m 98 #[.val (.long q0), .second, .val (.int p1), .val (.int (2 : Int32)), .val (.ref r3), .val (.long q4), .second, .unset, .unset, .unset, .unset, .unset, .unset, .unset, .unset] [(.int (lcmpW (((2 : Int32).toInt64) * ((p1 + (1 : Int32)).toInt64)) (((24 : Int32).toInt64) * (8 : Int64))))])) _
    refine XS.ifYes X0.here hx rfl (pc0 := 98) (pc' := 118) rfl (hb hby d4_98) rfl ((if0 _ _).trans (flt (own_lc_ngt (own_m98_2 hp h28))).2.2.2) (by decide) (by decide) ?_
    show Steps p.tables e below (s₁.setTop (mkF m 118 #[.val (.long q0), .second, .val (.int p1), .val (.int (2 : Int32)), .val (.ref r3), .val (.long q4), .second, .unset, .unset, .unset, .unset, .unset, .unset, .unset, .unset] [])) _
    refine XS.iloadN X0.here hx rfl (hb hby d4_118) rfl ?_
    refine XS.iconst X0.here hx rfl (hb hby d4_119) ?_
    refine XS.iadd X0.here hx rfl (hb hby d4_120) rfl ?_
    show Steps p.tables e below (s₁.setTop (mkF m 121 #[.val (.long q0), .second, .val (.int p1), .val (.int (2 : Int32)), .val (.ref r3), .val (.long q4), .second, .unset, .unset, .unset, .unset, .unset, .unset, .unset, .unset] [(.int (3 : Int32))])) _
    refine st101 _ ?_
    show Steps p.tables e below (T101.setTop (mkF m 123 #[.val (.long q0), .second, .val (.int p1), .val (.int (2 : Int32)), .val (.ref r3), .val (.long q4), .second, .unset, .unset, .unset, .unset, .unset, .unset, .unset, .unset] [(.ref b101)])) _
    refine XS.astore X101.here hx rfl (hb hby d4_123) rfl rfl (l' := #[.val (.long q0), .second, .val (.int p1), .val (.int (2 : Int32)), .val (.ref r3), .val (.long q4), .second, .val (.ref b101), .unset, .unset, .unset, .unset, .unset, .unset, .unset]) rfl ?_
    show Steps p.tables e below (T101.setTop (mkF m 125 #[.val (.long q0), .second, .val (.int p1), .val (.int (2 : Int32)), .val (.ref r3), .val (.long q4), .second, .val (.ref b101), .unset, .unset, .unset, .unset, .unset, .unset, .unset] [])) _
    refine XS.aload X101.here hx rfl (hb hby d4_125) rfl rfl ?_
    refine XS.iconst X101.here hx rfl (hb hby d4_127) ?_
    refine XS.lloadN X101.here hx rfl (hb hby d4_128) rfl ?_
    show Steps p.tables e below (T101.setTop (mkF m 129 #[.val (.long q0), .second, .val (.int p1), .val (.int (2 : Int32)), .val (.ref r3), .val (.long q4), .second, .val (.ref b101), .unset, .unset, .unset, .unset, .unset, .unset, .unset] [(.long q0), (.int (0 : Int32)), (.ref b101)])) _
    refine XS.l2i X101.here hx rfl (hb hby d4_129) rfl ?_
    show Steps p.tables e below (T101.setTop (mkF m 130 #[.val (.long q0), .second, .val (.int p1), .val (.int (2 : Int32)), .val (.ref r3), .val (.long q4), .second, .val (.ref b101), .unset, .unset, .unset, .unset, .unset, .unset, .unset] [(.int (q0.toInt32)), (.int (0 : Int32)), (.ref b101)])) _
    rw [← hv2]
    refine st107 _ ?_
    show Steps p.tables e below (T107.setTop (mkF m 131 #[.val (.long q0), .second, .val (.int p1), .val (.int (2 : Int32)), .val (.ref r3), .val (.long q4), .second, .val (.ref b101), .unset, .unset, .unset, .unset, .unset, .unset, .unset] [])) _
    refine st112 _ ?_
    show Steps p.tables e below (T112.setTop (mkF m 134 #[.val (.long q0), .second, .val (.int p1), .val (.int (2 : Int32)), .val (.ref r3), .val (.long q4), .second, .val (.ref b101), .unset, .unset, .unset, .unset, .unset, .unset, .unset] [(.ref b112)])) _
    refine XS.dup X112.here hx rfl (hb hby d4_134) rfl rfl ?_
    show Steps p.tables e below (T112.setTop (mkF m 135 #[.val (.long q0), .second, .val (.int p1), .val (.int (2 : Int32)), .val (.ref r3), .val (.long q4), .second, .val (.ref b101), .unset, .unset, .unset, .unset, .unset, .unset, .unset] [(.ref b112), (.ref b112)])) _
    refine XS.aload X112.here hx rfl (hb hby d4_135) rfl rfl ?_
    show Steps p.tables e below (T112.setTop (mkF m 137 #[.val (.long q0), .second, .val (.int p1), .val (.int (2 : Int32)), .val (.ref r3), .val (.long q4), .second, .val (.ref b101), .unset, .unset, .unset, .unset, .unset, .unset, .unset] [(.ref r3), (.ref b112), (.ref b112)])) _
    refine st121.trans ?_
    show Steps p.tables e below (T121.setTop (mkF m 140 #[.val (.long q0), .second, .val (.int p1), .val (.int (2 : Int32)), .val (.ref r3), .val (.long q4), .second, .val (.ref b101), .unset, .unset, .unset, .unset, .unset, .unset, .unset] [(.ref b112)])) _
    refine XS.astore X121.here hx rfl (hb hby d4_140) rfl rfl (l' := #[.val (.long q0), .second, .val (.int p1), .val (.int (2 : Int32)), .val (.ref r3), .val (.long q4), .second, .val (.ref b101), .val (.ref b112), .unset, .unset, .unset, .unset, .unset, .unset]) rfl ?_
    show Steps p.tables e below (T121.setTop (mkF m 142 #[.val (.long q0), .second, .val (.int p1), .val (.int (2 : Int32)), .val (.ref r3), .val (.long q4), .second, .val (.ref b101), .val (.ref b112), .unset, .unset, .unset, .unset, .unset, .unset] [])) _
    refine XS.lloadN X121.here hx rfl (hb hby d4_142) rfl ?_
    refine XS.lstore X121.here hx rfl (hb hby d4_143) rfl (l' := #[.val (.long q0), .second, .val (.int p1), .val (.int (2 : Int32)), .val (.ref r3), .val (.long q4), .second, .val (.ref b101), .val (.ref b112), .val (.long q0), .second, .unset, .unset, .unset, .unset]) rfl ?_
    show Steps p.tables e below (T121.setTop (mkF m 145 #[.val (.long q0), .second, .val (.int p1), .val (.int (2 : Int32)), .val (.ref r3), .val (.long q4), .second, .val (.ref b101), .val (.ref b112), .val (.long q0), .second, .unset, .unset, .unset, .unset] [])) _
    refine XS.iconst X121.here hx rfl (hb hby d4_145) ?_
    refine XS.istore X121.here hx rfl (hb hby d4_146) rfl (l' := #[.val (.long q0), .second, .val (.int p1), .val (.int (2 : Int32)), .val (.ref r3), .val (.long q4), .second, .val (.ref b101), .val (.ref b112), .val (.long q0), .second, .val (.int (1 : Int32)), .unset, .unset, .unset]) rfl ?_
    show Steps p.tables e below (T121.setTop (mkF m 148 #[.val (.long q0), .second, .val (.int p1), .val (.int (2 : Int32)), .val (.ref r3), .val (.long q4), .second, .val (.ref b101), .val (.ref b112), .val (.long q0), .second, .val (.int (1 : Int32)), .unset, .unset, .unset] [])) _
    refine XS.iload X121.here hx rfl (hb hby d4_148) rfl ?_
    refine XS.iloadN X121.here hx rfl (hb hby d4_150) rfl ?_
    refine XS.icmpNo X121.here hx rfl (hb hby d4_151) rfl (flt (by decide : ¬ ((2 : Int32) < (1 : Int32)))).2.2.1 ?_
    show Steps p.tables e below (T121.setTop (mkF m 154 #[.val (.long q0), .second, .val (.int p1), .val (.int (2 : Int32)), .val (.ref r3), .val (.long q4), .second, .val (.ref b101), .val (.ref b112), .val (.long q0), .second, .val (.int (1 : Int32)), .unset, .unset, .unset] [])) _
    refine XS.aload X121.here hx rfl (hb hby d4_154) rfl rfl ?_
    show Steps p.tables e below (T121.setTop (mkF m 156 #[.val (.long q0), .second, .val (.int p1), .val (.int (2 : Int32)), .val (.ref r3), .val (.long q4), .second, .val (.ref b101), .val (.ref b112), .val (.long q0), .second, .val (.int (1 : Int32)), .unset, .unset, .unset] [(.ref b112)])) _
    refine st127.trans ?_
    show Steps p.tables e below (T127.setTop (mkF m 159 #[.val (.long q0), .second, .val (.int p1), .val (.int (2 : Int32)), .val (.ref r3), .val (.long q4), .second, .val (.ref b101), .val (.ref b112), .val (.long q0), .second, .val (.int (1 : Int32)), .unset, .unset, .unset] [(.long z1)])) _
    refine XS.lstore X127.here hx rfl (hb hby d4_159) rfl (l' := #[.val (.long q0), .second, .val (.int p1), .val (.int (2 : Int32)), .val (.ref r3), .val (.long q4), .second, .val (.ref b101), .val (.ref b112), .val (.long q0), .second, .val (.int (1 : Int32)), .val (.long z1), .second, .unset]) rfl ?_
    show Steps p.tables e below (T127.setTop (mkF m 161 #[.val (.long q0), .second, .val (.int p1), .val (.int (2 : Int32)), .val (.ref r3), .val (.long q4), .second, .val (.ref b101), .val (.ref b112), .val (.long q0), .second, .val (.int (1 : Int32)), .val (.long z1), .second, .unset] [])) _
    refine XS.aload X127.here hx rfl (hb hby d4_161) rfl rfl ?_
    refine XS.iloadN X127.here hx rfl (hb hby d4_163) rfl ?_
    show Steps p.tables e below (T127.setTop (mkF m 164 #[.val (.long q0), .second, .val (.int p1), .val (.int (2 : Int32)), .val (.ref r3), .val (.long q4), .second, .val (.ref b101), .val (.ref b112), .val (.long q0), .second, .val (.int (1 : Int32)), .val (.long z1), .second, .unset] [(.int p1), (.ref b112)])) _
    refine st133.trans ?_
    show Steps p.tables e below (T133.setTop (mkF m 167 #[.val (.long q0), .second, .val (.int p1), .val (.int (2 : Int32)), .val (.ref r3), .val (.long q4), .second, .val (.ref b101), .val (.ref b112), .val (.long q0), .second, .val (.int (1 : Int32)), .val (.long z1), .second, .unset] [(.int y1)])) _
    refine XS.istore X133.here hx rfl (hb hby d4_167) rfl (l' := #[.val (.long q0), .second, .val (.int p1), .val (.int (2 : Int32)), .val (.ref r3), .val (.long q4), .second, .val (.ref b101), .val (.ref b112), .val (.long q0), .second, .val (.int (1 : Int32)), .val (.long z1), .second, .val (.int y1)]) rfl ?_
    show Steps p.tables e below (T133.setTop (mkF m 169 #[.val (.long q0), .second, .val (.int p1), .val (.int (2 : Int32)), .val (.ref r3), .val (.long q4), .second, .val (.ref b101), .val (.ref b112), .val (.long q0), .second, .val (.int (1 : Int32)), .val (.long z1), .second, .val (.int y1)] [])) _
    refine XS.iload X133.here hx rfl (hb hby d4_169) rfl ?_
    refine XS.ifYes X133.here hx rfl (pc0 := 171) (pc' := 195) rfl (hb hby d4_171) rfl ((if0 _ _).trans (flt (own_ynn hy1)).2.1) (by decide) (by decide) ?_
    show Steps p.tables e below (T133.setTop (mkF m 195 #[.val (.long q0), .second, .val (.int p1), .val (.int (2 : Int32)), .val (.ref r3), .val (.long q4), .second, .val (.ref b101), .val (.ref b112), .val (.long q0), .second, .val (.int (1 : Int32)), .val (.long z1), .second, .val (.int y1)] [])) _
    refine XS.lload X133.here hx rfl (hb hby d4_195) rfl ?_
    refine XS.lload X133.here hx rfl (hb hby d4_197) rfl ?_
    refine XS.iloadN X133.here hx rfl (hb hby d4_199) rfl ?_
    show Steps p.tables e below (T133.setTop (mkF m 200 #[.val (.long q0), .second, .val (.int p1), .val (.int (2 : Int32)), .val (.ref r3), .val (.long q4), .second, .val (.ref b101), .val (.ref b112), .val (.long q0), .second, .val (.int (1 : Int32)), .val (.long z1), .second, .val (.int y1)] [(.int p1), (.long z1), (.long q0)])) _
    refine XS.lshl X133.here hx rfl (hb hby d4_200) rfl ?_
    show Steps p.tables e below (T133.setTop (mkF m 201 #[.val (.long q0), .second, .val (.int p1), .val (.int (2 : Int32)), .val (.ref r3), .val (.long q4), .second, .val (.ref b101), .val (.ref b112), .val (.long q0), .second, .val (.int (1 : Int32)), .val (.long z1), .second, .val (.int y1)] [(.long (z1 <<< (p1 &&& 0x3f).toInt64)), (.long q0)])) _
    refine XS.iload X133.here hx rfl (hb hby d4_201) rfl ?_
    refine XS.i2l X133.here hx rfl (hb hby d4_203) rfl ?_
    show Steps p.tables e below (T133.setTop (mkF m 204 #[.val (.long q0), .second, .val (.int p1), .val (.int (2 : Int32)), .val (.ref r3), .val (.long q4), .second, .val (.ref b101), .val (.ref b112), .val (.long q0), .second, .val (.int (1 : Int32)), .val (.long z1), .second, .val (.int y1)] [(.long (y1.toInt64)), (.long (z1 <<< (p1 &&& 0x3f).toInt64)), (.long q0)])) _
    refine XS.lor X133.here hx rfl (hb hby d4_204) rfl ?_
    show Steps p.tables e below (T133.setTop (mkF m 205 #[.val (.long q0), .second, .val (.int p1), .val (.int (2 : Int32)), .val (.ref r3), .val (.long q4), .second, .val (.ref b101), .val (.ref b112), .val (.long q0), .second, .val (.int (1 : Int32)), .val (.long z1), .second, .val (.int y1)] [(.long ((z1 <<< (p1 &&& 0x3f).toInt64) ||| (y1.toInt64))), (.long q0)])) _
    refine XS.ladd X133.here hx rfl (hb hby d4_205) rfl ?_
    show Steps p.tables e below (T133.setTop (mkF m 206 #[.val (.long q0), .second, .val (.int p1), .val (.int (2 : Int32)), .val (.ref r3), .val (.long q4), .second, .val (.ref b101), .val (.ref b112), .val (.long q0), .second, .val (.int (1 : Int32)), .val (.long z1), .second, .val (.int y1)] [(.long (q0 + ((z1 <<< (p1 &&& 0x3f).toInt64) ||| (y1.toInt64))))])) _
    rw [← hv4]
    show Steps p.tables e below (T133.setTop (mkF m 206 #[.val (.long q0), .second, .val (.int p1), .val (.int (2 : Int32)), .val (.ref r3), .val (.long q4), .second, .val (.ref b101), .val (.ref b112), .val (.long q0), .second, .val (.int (1 : Int32)), .val (.long z1), .second, .val (.int y1)] [(.long v4)])) _
    refine XS.lstore X133.here hx rfl (hb hby d4_206) rfl (l' := #[.val (.long q0), .second, .val (.int p1), .val (.int (2 : Int32)), .val (.ref r3), .val (.long q4), .second, .val (.ref b101), .val (.ref b112), .val (.long v4), .second, .val (.int (1 : Int32)), .val (.long z1), .second, .val (.int y1)]) rfl ?_
    show Steps p.tables e below (T133.setTop (mkF m 208 #[.val (.long q0), .second, .val (.int p1), .val (.int (2 : Int32)), .val (.ref r3), .val (.long q4), .second, .val (.ref b101), .val (.ref b112), .val (.long v4), .second, .val (.int (1 : Int32)), .val (.long z1), .second, .val (.int y1)] [])) _
    refine XS.lload X133.here hx rfl (hb hby d4_208) rfl ?_
    refine XS.lload X133.here hx rfl (hb hby d4_210) rfl ?_
    refine XS.lcmp X133.here hx rfl (hb hby d4_212) rfl ?_
    show Steps p.tables e below (T133.setTop (mkF m 213 #[.val (.long q0), .second, .val (.int p1), .val (.int (2 : Int32)), .val (.ref r3), .val (.long q4), .second, .val (.ref b101), .val (.ref b112), .val (.long v4), .second, .val (.int (1 : Int32)), .val (.long z1), .second, .val (.int y1)] [(.int (lcmpW v4 q4))])) _
    refine XS.ifYes X133.here hx rfl (pc0 := 213) (pc' := 235) rfl (hb hby d4_213) rfl ((if0 _ _).trans (flt (own_lc_ngt (by rw [hv4]; exact hm1))).2.2.2) (by decide) (by decide) ?_
    show Steps p.tables e below (T133.setTop (mkF m 235 #[.val (.long q0), .second, .val (.int p1), .val (.int (2 : Int32)), .val (.ref r3), .val (.long q4), .second, .val (.ref b101), .val (.ref b112), .val (.long v4), .second, .val (.int (1 : Int32)), .val (.long z1), .second, .val (.int y1)] [])) _
    refine XS.aload X133.here hx rfl (hb hby d4_235) rfl rfl ?_
    refine XS.iload X133.here hx rfl (hb hby d4_237) rfl ?_
    refine XS.lload X133.here hx rfl (hb hby d4_239) rfl ?_
    show Steps p.tables e below (T133.setTop (mkF m 241 #[.val (.long q0), .second, .val (.int p1), .val (.int (2 : Int32)), .val (.ref r3), .val (.long q4), .second, .val (.ref b101), .val (.ref b112), .val (.long v4), .second, .val (.int (1 : Int32)), .val (.long z1), .second, .val (.int y1)] [(.long v4), (.int (1 : Int32)), (.ref b101)])) _
    refine XS.l2i X133.here hx rfl (hb hby d4_241) rfl ?_
    show Steps p.tables e below (T133.setTop (mkF m 242 #[.val (.long q0), .second, .val (.int p1), .val (.int (2 : Int32)), .val (.ref r3), .val (.long q4), .second, .val (.ref b101), .val (.ref b112), .val (.long v4), .second, .val (.int (1 : Int32)), .val (.long z1), .second, .val (.int y1)] [(.int (v4.toInt32)), (.int (1 : Int32)), (.ref b101)])) _
    rw [← hv5]
    refine st140 _ ?_
    show Steps p.tables e below (T140.setTop (mkF m 243 #[.val (.long q0), .second, .val (.int p1), .val (.int (2 : Int32)), .val (.ref r3), .val (.long q4), .second, .val (.ref b101), .val (.ref b112), .val (.long v4), .second, .val (.int (1 : Int32)), .val (.long z1), .second, .val (.int y1)] [])) _
    refine XS.iinc X140.here hx rfl (hb hby d4_243) rfl (l' := #[.val (.long q0), .second, .val (.int p1), .val (.int (2 : Int32)), .val (.ref r3), .val (.long q4), .second, .val (.ref b101), .val (.ref b112), .val (.long v4), .second, .val (.int ((1 : Int32) + (1 : Int32))), .val (.long z1), .second, .val (.int y1)]) rfl ?_
    rw [show ((1 : Int32) + (1 : Int32)) = (2 : Int32) from by decide]
    show Steps p.tables e below (T140.setTop (mkF m 246 #[.val (.long q0), .second, .val (.int p1), .val (.int (2 : Int32)), .val (.ref r3), .val (.long q4), .second, .val (.ref b101), .val (.ref b112), .val (.long v4), .second, .val (.int (2 : Int32)), .val (.long z1), .second, .val (.int y1)] [])) _
    refine XS.goto X140.here hx rfl (pc0 := 246) (pc' := 148) rfl (hb hby d4_246) (by decide) (by decide) ?_
    show Steps p.tables e below (T140.setTop (mkF m 148 #[.val (.long q0), .second, .val (.int p1), .val (.int (2 : Int32)), .val (.ref r3), .val (.long q4), .second, .val (.ref b101), .val (.ref b112), .val (.long v4), .second, .val (.int (2 : Int32)), .val (.long z1), .second, .val (.int y1)] [])) _
    refine XS.iload X140.here hx rfl (hb hby d4_148) rfl ?_
    refine XS.iloadN X140.here hx rfl (hb hby d4_150) rfl ?_
    refine XS.icmpNo X140.here hx rfl (hb hby d4_151) rfl (flt (by decide : ¬ ((2 : Int32) < (2 : Int32)))).2.2.1 ?_
    show Steps p.tables e below (T140.setTop (mkF m 154 #[.val (.long q0), .second, .val (.int p1), .val (.int (2 : Int32)), .val (.ref r3), .val (.long q4), .second, .val (.ref b101), .val (.ref b112), .val (.long v4), .second, .val (.int (2 : Int32)), .val (.long z1), .second, .val (.int y1)] [])) _
    refine XS.aload X140.here hx rfl (hb hby d4_154) rfl rfl ?_
    show Steps p.tables e below (T140.setTop (mkF m 156 #[.val (.long q0), .second, .val (.int p1), .val (.int (2 : Int32)), .val (.ref r3), .val (.long q4), .second, .val (.ref b101), .val (.ref b112), .val (.long v4), .second, .val (.int (2 : Int32)), .val (.long z1), .second, .val (.int y1)] [(.ref b112)])) _
    refine st150.trans ?_
    show Steps p.tables e below (T150.setTop (mkF m 159 #[.val (.long q0), .second, .val (.int p1), .val (.int (2 : Int32)), .val (.ref r3), .val (.long q4), .second, .val (.ref b101), .val (.ref b112), .val (.long v4), .second, .val (.int (2 : Int32)), .val (.long z1), .second, .val (.int y1)] [(.long z2)])) _
    refine XS.lstore X150.here hx rfl (hb hby d4_159) rfl (l' := #[.val (.long q0), .second, .val (.int p1), .val (.int (2 : Int32)), .val (.ref r3), .val (.long q4), .second, .val (.ref b101), .val (.ref b112), .val (.long v4), .second, .val (.int (2 : Int32)), .val (.long z2), .second, .val (.int y1)]) rfl ?_
    show Steps p.tables e below (T150.setTop (mkF m 161 #[.val (.long q0), .second, .val (.int p1), .val (.int (2 : Int32)), .val (.ref r3), .val (.long q4), .second, .val (.ref b101), .val (.ref b112), .val (.long v4), .second, .val (.int (2 : Int32)), .val (.long z2), .second, .val (.int y1)] [])) _
    refine XS.aload X150.here hx rfl (hb hby d4_161) rfl rfl ?_
    refine XS.iloadN X150.here hx rfl (hb hby d4_163) rfl ?_
    show Steps p.tables e below (T150.setTop (mkF m 164 #[.val (.long q0), .second, .val (.int p1), .val (.int (2 : Int32)), .val (.ref r3), .val (.long q4), .second, .val (.ref b101), .val (.ref b112), .val (.long v4), .second, .val (.int (2 : Int32)), .val (.long z2), .second, .val (.int y1)] [(.int p1), (.ref b112)])) _
    refine st156.trans ?_
    show Steps p.tables e below (T156.setTop (mkF m 167 #[.val (.long q0), .second, .val (.int p1), .val (.int (2 : Int32)), .val (.ref r3), .val (.long q4), .second, .val (.ref b101), .val (.ref b112), .val (.long v4), .second, .val (.int (2 : Int32)), .val (.long z2), .second, .val (.int y1)] [(.int y2)])) _
    refine XS.istore X156.here hx rfl (hb hby d4_167) rfl (l' := #[.val (.long q0), .second, .val (.int p1), .val (.int (2 : Int32)), .val (.ref r3), .val (.long q4), .second, .val (.ref b101), .val (.ref b112), .val (.long v4), .second, .val (.int (2 : Int32)), .val (.long z2), .second, .val (.int y2)]) rfl ?_
    show Steps p.tables e below (T156.setTop (mkF m 169 #[.val (.long q0), .second, .val (.int p1), .val (.int (2 : Int32)), .val (.ref r3), .val (.long q4), .second, .val (.ref b101), .val (.ref b112), .val (.long v4), .second, .val (.int (2 : Int32)), .val (.long z2), .second, .val (.int y2)] [])) _
    refine XS.iload X156.here hx rfl (hb hby d4_169) rfl ?_
    refine XS.ifYes X156.here hx rfl (pc0 := 171) (pc' := 195) rfl (hb hby d4_171) rfl ((if0 _ _).trans (flt (own_ynn hy2)).2.1) (by decide) (by decide) ?_
    show Steps p.tables e below (T156.setTop (mkF m 195 #[.val (.long q0), .second, .val (.int p1), .val (.int (2 : Int32)), .val (.ref r3), .val (.long q4), .second, .val (.ref b101), .val (.ref b112), .val (.long v4), .second, .val (.int (2 : Int32)), .val (.long z2), .second, .val (.int y2)] [])) _
    refine XS.lload X156.here hx rfl (hb hby d4_195) rfl ?_
    refine XS.lload X156.here hx rfl (hb hby d4_197) rfl ?_
    refine XS.iloadN X156.here hx rfl (hb hby d4_199) rfl ?_
    show Steps p.tables e below (T156.setTop (mkF m 200 #[.val (.long q0), .second, .val (.int p1), .val (.int (2 : Int32)), .val (.ref r3), .val (.long q4), .second, .val (.ref b101), .val (.ref b112), .val (.long v4), .second, .val (.int (2 : Int32)), .val (.long z2), .second, .val (.int y2)] [(.int p1), (.long z2), (.long v4)])) _
    refine XS.lshl X156.here hx rfl (hb hby d4_200) rfl ?_
    show Steps p.tables e below (T156.setTop (mkF m 201 #[.val (.long q0), .second, .val (.int p1), .val (.int (2 : Int32)), .val (.ref r3), .val (.long q4), .second, .val (.ref b101), .val (.ref b112), .val (.long v4), .second, .val (.int (2 : Int32)), .val (.long z2), .second, .val (.int y2)] [(.long (z2 <<< (p1 &&& 0x3f).toInt64)), (.long v4)])) _
    refine XS.iload X156.here hx rfl (hb hby d4_201) rfl ?_
    refine XS.i2l X156.here hx rfl (hb hby d4_203) rfl ?_
    show Steps p.tables e below (T156.setTop (mkF m 204 #[.val (.long q0), .second, .val (.int p1), .val (.int (2 : Int32)), .val (.ref r3), .val (.long q4), .second, .val (.ref b101), .val (.ref b112), .val (.long v4), .second, .val (.int (2 : Int32)), .val (.long z2), .second, .val (.int y2)] [(.long (y2.toInt64)), (.long (z2 <<< (p1 &&& 0x3f).toInt64)), (.long v4)])) _
    refine XS.lor X156.here hx rfl (hb hby d4_204) rfl ?_
    show Steps p.tables e below (T156.setTop (mkF m 205 #[.val (.long q0), .second, .val (.int p1), .val (.int (2 : Int32)), .val (.ref r3), .val (.long q4), .second, .val (.ref b101), .val (.ref b112), .val (.long v4), .second, .val (.int (2 : Int32)), .val (.long z2), .second, .val (.int y2)] [(.long ((z2 <<< (p1 &&& 0x3f).toInt64) ||| (y2.toInt64))), (.long v4)])) _
    refine XS.ladd X156.here hx rfl (hb hby d4_205) rfl ?_
    show Steps p.tables e below (T156.setTop (mkF m 206 #[.val (.long q0), .second, .val (.int p1), .val (.int (2 : Int32)), .val (.ref r3), .val (.long q4), .second, .val (.ref b101), .val (.ref b112), .val (.long v4), .second, .val (.int (2 : Int32)), .val (.long z2), .second, .val (.int y2)] [(.long (v4 + ((z2 <<< (p1 &&& 0x3f).toInt64) ||| (y2.toInt64))))])) _
    rw [← hv7]
    show Steps p.tables e below (T156.setTop (mkF m 206 #[.val (.long q0), .second, .val (.int p1), .val (.int (2 : Int32)), .val (.ref r3), .val (.long q4), .second, .val (.ref b101), .val (.ref b112), .val (.long v4), .second, .val (.int (2 : Int32)), .val (.long z2), .second, .val (.int y2)] [(.long v7)])) _
    refine XS.lstore X156.here hx rfl (hb hby d4_206) rfl (l' := #[.val (.long q0), .second, .val (.int p1), .val (.int (2 : Int32)), .val (.ref r3), .val (.long q4), .second, .val (.ref b101), .val (.ref b112), .val (.long v7), .second, .val (.int (2 : Int32)), .val (.long z2), .second, .val (.int y2)]) rfl ?_
    show Steps p.tables e below (T156.setTop (mkF m 208 #[.val (.long q0), .second, .val (.int p1), .val (.int (2 : Int32)), .val (.ref r3), .val (.long q4), .second, .val (.ref b101), .val (.ref b112), .val (.long v7), .second, .val (.int (2 : Int32)), .val (.long z2), .second, .val (.int y2)] [])) _
    refine XS.lload X156.here hx rfl (hb hby d4_208) rfl ?_
    refine XS.lload X156.here hx rfl (hb hby d4_210) rfl ?_
    refine XS.lcmp X156.here hx rfl (hb hby d4_212) rfl ?_
    show Steps p.tables e below (T156.setTop (mkF m 213 #[.val (.long q0), .second, .val (.int p1), .val (.int (2 : Int32)), .val (.ref r3), .val (.long q4), .second, .val (.ref b101), .val (.ref b112), .val (.long v7), .second, .val (.int (2 : Int32)), .val (.long z2), .second, .val (.int y2)] [(.int (lcmpW v7 q4))])) _
    refine XS.ifYes X156.here hx rfl (pc0 := 213) (pc' := 235) rfl (hb hby d4_213) rfl ((if0 _ _).trans (flt (own_lc_ngt (by rw [hv7, hv4]; exact hm2))).2.2.2) (by decide) (by decide) ?_
    show Steps p.tables e below (T156.setTop (mkF m 235 #[.val (.long q0), .second, .val (.int p1), .val (.int (2 : Int32)), .val (.ref r3), .val (.long q4), .second, .val (.ref b101), .val (.ref b112), .val (.long v7), .second, .val (.int (2 : Int32)), .val (.long z2), .second, .val (.int y2)] [])) _
    refine XS.aload X156.here hx rfl (hb hby d4_235) rfl rfl ?_
    refine XS.iload X156.here hx rfl (hb hby d4_237) rfl ?_
    refine XS.lload X156.here hx rfl (hb hby d4_239) rfl ?_
    show Steps p.tables e below (T156.setTop (mkF m 241 #[.val (.long q0), .second, .val (.int p1), .val (.int (2 : Int32)), .val (.ref r3), .val (.long q4), .second, .val (.ref b101), .val (.ref b112), .val (.long v7), .second, .val (.int (2 : Int32)), .val (.long z2), .second, .val (.int y2)] [(.long v7), (.int (2 : Int32)), (.ref b101)])) _
    refine XS.l2i X156.here hx rfl (hb hby d4_241) rfl ?_
    show Steps p.tables e below (T156.setTop (mkF m 242 #[.val (.long q0), .second, .val (.int p1), .val (.int (2 : Int32)), .val (.ref r3), .val (.long q4), .second, .val (.ref b101), .val (.ref b112), .val (.long v7), .second, .val (.int (2 : Int32)), .val (.long z2), .second, .val (.int y2)] [(.int (v7.toInt32)), (.int (2 : Int32)), (.ref b101)])) _
    rw [← hv8]
    refine st163 _ ?_
    show Steps p.tables e below (T163.setTop (mkF m 243 #[.val (.long q0), .second, .val (.int p1), .val (.int (2 : Int32)), .val (.ref r3), .val (.long q4), .second, .val (.ref b101), .val (.ref b112), .val (.long v7), .second, .val (.int (2 : Int32)), .val (.long z2), .second, .val (.int y2)] [])) _
    refine XS.iinc X163.here hx rfl (hb hby d4_243) rfl (l' := #[.val (.long q0), .second, .val (.int p1), .val (.int (2 : Int32)), .val (.ref r3), .val (.long q4), .second, .val (.ref b101), .val (.ref b112), .val (.long v7), .second, .val (.int ((2 : Int32) + (1 : Int32))), .val (.long z2), .second, .val (.int y2)]) rfl ?_
    rw [show ((2 : Int32) + (1 : Int32)) = (3 : Int32) from by decide]
    show Steps p.tables e below (T163.setTop (mkF m 246 #[.val (.long q0), .second, .val (.int p1), .val (.int (2 : Int32)), .val (.ref r3), .val (.long q4), .second, .val (.ref b101), .val (.ref b112), .val (.long v7), .second, .val (.int (3 : Int32)), .val (.long z2), .second, .val (.int y2)] [])) _
    refine XS.goto X163.here hx rfl (pc0 := 246) (pc' := 148) rfl (hb hby d4_246) (by decide) (by decide) ?_
    show Steps p.tables e below (T163.setTop (mkF m 148 #[.val (.long q0), .second, .val (.int p1), .val (.int (2 : Int32)), .val (.ref r3), .val (.long q4), .second, .val (.ref b101), .val (.ref b112), .val (.long v7), .second, .val (.int (3 : Int32)), .val (.long z2), .second, .val (.int y2)] [])) _
    refine XS.iload X163.here hx rfl (hb hby d4_148) rfl ?_
    refine XS.iloadN X163.here hx rfl (hb hby d4_150) rfl ?_
    refine XS.icmpYes X163.here hx rfl (pc0 := 151) (pc' := 249) rfl (hb hby d4_151) rfl (tlt (by decide : (2 : Int32) < (3 : Int32))).2.2.1 (by decide) (by decide) ?_
    show Steps p.tables e below (T163.setTop (mkF m 249 #[.val (.long q0), .second, .val (.int p1), .val (.int (2 : Int32)), .val (.ref r3), .val (.long q4), .second, .val (.ref b101), .val (.ref b112), .val (.long v7), .second, .val (.int (3 : Int32)), .val (.long z2), .second, .val (.int y2)] [])) _
    refine XS.aload X163.here hx rfl (hb hby d4_249) rfl rfl ?_
    exact kt
  refine own_go hgo173 ?_
  exact own_retA X163 hx Bd.returns rfl rfl Bd.notSynchronized (hb hby d4_251) (by decide) (by decide) (by rw [e163]; exact ⟨b101, (by rfl), N172, K171, sz_b101, (by subst hv9 hv8 hv7 hv6 hv5 hv4 hv3 hv2 hv1; exact B163n)⟩)
theorem own_n3 {n p : Int32} (h : n = ((p &&& (2147483647 : Int32)) % (3 : Int32))) (h0 : ¬ (n = (0 : Int32))) (h1 : ¬ (n = (1 : Int32))) : n = (2 : Int32) := by
  have e : (p &&& (2147483647 : Int32)).toBitVec.toNat = p.toBitVec.toNat % 2 ^ 31 := by
    rw [Int32.toBitVec_and, BitVec.toNat_and]; exact Nat.and_two_pow_sub_one_eq_mod _ 31
  have e2 : (p &&& (2147483647 : Int32)).toInt = ((p.toBitVec.toNat % 2 ^ 31 : Nat) : Int) := by
    show BitVec.toInt _ = _
    rw [BitVec.toInt_eq_toNat_cond, e, if_pos (by omega)]
  have e3 : n.toInt = ((p.toBitVec.toNat % 2 ^ 31 : Nat) : Int) % 3 := by
    rw [h, Int32.toInt_mod, show (3 : Int32).toInt = 3 from rfl, e2, Int.tmod_eq_emod_of_nonneg (by omega)]
  rw [← Int32.toInt_inj, show (0 : Int32).toInt = 0 from rfl] at h0
  rw [← Int32.toInt_inj, show (1 : Int32).toInt = 1 from rfl] at h1
  rw [← Int32.toInt_inj, show (2 : Int32).toInt = 2 from rfl]
  omega
theorem own_kk {k p : Int32} (h : k = ((2 : Int32) + (((p.toUInt32 >>> ((2 : Int32) &&& 31).toUInt32).toInt32) % (27 : Int32)))) : 2 ≤ k.toInt ∧ k.toInt ≤ 28 := by
  have e : ((p.toUInt32 >>> ((2 : Int32) &&& 31).toUInt32).toInt32).toBitVec.toNat = p.toBitVec.toNat / 4 := by
    rw [UInt32.toBitVec_toInt32, UInt32.toBitVec_shiftRight, BitVec.ushiftRight_eq', show (((2 : Int32) &&& 31).toUInt32.toBitVec % 32).toNat = 2 from rfl, BitVec.toNat_ushiftRight, Nat.shiftRight_eq_div_pow]; rfl
  have l := p.toBitVec.isLt
  have e2 : ((p.toUInt32 >>> ((2 : Int32) &&& 31).toUInt32).toInt32).toInt = ((p.toBitVec.toNat / 4 : Nat) : Int) := by
    show BitVec.toInt _ = _
    rw [BitVec.toInt_eq_toNat_cond, e, if_pos (by omega)]
  have e3 : (((p.toUInt32 >>> ((2 : Int32) &&& 31).toUInt32).toInt32) % (27 : Int32)).toInt = ((p.toBitVec.toNat / 4 : Nat) : Int) % 27 := by
    rw [Int32.toInt_mod, show (27 : Int32).toInt = 27 from rfl, e2, Int.tmod_eq_emod_of_nonneg (by omega)]
  rw [h, Int32.toInt_add, show (2 : Int32).toInt = 2 from rfl, e3, Int.bmod_eq_of_le (by omega) (by omega)]
  omega
theorem own_qm {k qm : Int32} {K : Nat} (hk : k.toInt = K) (h2 : 2 ≤ K) (h28 : K ≤ 28) (h : qm = (if k < (25 : Int32) then (63 : Int32) else (((1 : Int32) <<< (((30 : Int32) - k) &&& 31)) - (1 : Int32)))) : ∃ E, E ≤ 6 ∧ E + K ≤ 30 ∧ qm.toInt64.toBitVec.toNat = 2 ^ E - 1 := by
  have a : ∀ n : Fin 29, 2 ≤ n.val → ((if (Int32.ofNat n.val) < (25 : Int32) then (63 : Int32) else (((1 : Int32) <<< (((30 : Int32) - (Int32.ofNat n.val)) &&& 31)) - (1 : Int32))).toInt64).toBitVec.toNat = 2 ^ (min 6 (30 - n.val)) - 1 := by decide +kernel
  have q := a ⟨K, by omega⟩ h2
  have e : Int32.ofNat K = k := by
    rw [← Int32.ofInt_eq_ofNat, ← hk, Int32.ofInt_toInt]
  simp only [e] at q
  exact ⟨min 6 (30 - K), by omega, by omega, by rw [h]; exact q⟩
theorem own_andJ {x m : Int64} {E : Nat} (hm : m.toBitVec.toNat = 2 ^ E - 1) : (x &&& m).toBitVec.toNat = x.toBitVec.toNat % 2 ^ E := by
  rw [Int64.toBitVec_and, BitVec.toNat_and, hm, Nat.and_two_pow_sub_one_eq_mod]
theorem own_to32 {y : Int64} {n : Nat} (h : y.toBitVec.toNat = n) (hn : n < 2 ^ 31) : y.toInt32.toInt = (n : Int) := by
  have hw : y.toInt32.toBitVec.toNat = n := by
    show (y.toBitVec.signExtend 32).toNat = _
    rw [BitVec.signExtend_eq_setWidth_of_le _ (by decide), BitVec.toNat_setWidth, h]
    omega
  show BitVec.toInt _ = _
  rw [BitVec.toInt_eq_toNat_cond, hw, if_pos (by omega)]
theorem own_onesN {q : Int32} {c : Nat} (hq : q.toInt = c) (hc : c ≤ 63) : (((1 : Int64) <<< (q &&& 0x3f).toInt64) - (1 : Int64)).toBitVec.toNat = 2 ^ c - 1 := by
  have hs : ((1 : Int64) <<< (q &&& 0x3f).toInt64).toBitVec = 1#64 <<< c := own_shl64 1 (by omega) (by omega) (by omega)
  have p1 : 1 ≤ 2 ^ c := Nat.one_le_two_pow
  have p2 : 2 ^ c ≤ 2 ^ 63 := Nat.pow_le_pow_right (by decide) hc
  rw [Int64.toBitVec_sub, hs, BitVec.toNat_sub, BitVec.toNat_shiftLeft]
  show (2 ^ 64 - 1 + ((1 % 2 ^ 64) <<< c) % 2 ^ 64) % 2 ^ 64 = _
  rw [show (1 % 2 ^ 64) <<< c = 2 ^ c by rw [show 1 % 2 ^ 64 = 1 from rfl, Nat.one_shiftLeft]]
  omega
def own_ok (k q : Int32) (r : Int64) (K Q : Nat) : Prop := k.toInt = (K : Int) ∧ q.toInt = (Q : Int) ∧ 2 ≤ K ∧ K ≤ 28 ∧ Q ≤ 63 ∧ Q + K ≤ 87 ∧ (Q + 1) * 2 ^ K ≤ 2 ^ 30 ∧ r.toBitVec.toNat < 2 ^ K
theorem own_par {p k qm q : Int32} {ms a r : Int64} (hk : k = ((2 : Int32) + (((p.toUInt32 >>> ((2 : Int32) &&& 31).toUInt32).toInt32) % (27 : Int32)))) (hqm : qm = (if k < (25 : Int32) then (63 : Int32) else (((1 : Int32) <<< (((30 : Int32) - k) &&& 31)) - (1 : Int32)))) (hms : ms = (((1 : Int64) <<< (k &&& 0x3f).toInt64) - (1 : Int64)))
    (hq : q = ((a &&& (qm.toInt64)).toInt32)) (hr : r = (((a.toUInt64 >>> ((6 : Int32) &&& 0x3f).toInt64.toUInt64).toInt64) &&& ms)) : own_ok k q r k.toInt.toNat q.toInt.toNat := by
  obtain ⟨k2, k28⟩ := own_kk hk
  have hK : k.toInt = ((k.toInt.toNat : Nat) : Int) := by omega
  obtain ⟨E, hE, hEK, hm⟩ := own_qm hK (by omega) (by omega) hqm
  have e1 := own_andJ (x := a) hm
  have p6 : 2 ^ E ≤ 2 ^ 6 := Nat.pow_le_pow_right (by decide) hE
  have hlt : a.toBitVec.toNat % 2 ^ E < 2 ^ E := Nat.mod_lt _ (Nat.pow_pos (by decide))
  have e2 : q.toInt = ((a.toBitVec.toNat % 2 ^ E : Nat) : Int) := by rw [hq]; exact own_to32 e1 (by omega)
  have hQ : q.toInt.toNat = a.toBitVec.toNat % 2 ^ E := by omega
  have hQE : q.toInt.toNat < 2 ^ E := by omega
  refine ⟨hK, by omega, by omega, by omega, by omega, ?_, ?_, ?_⟩
  · by_cases c : E ≤ 5
    · have p5 : 2 ^ E ≤ 2 ^ 5 := Nat.pow_le_pow_right (by decide) c
      omega
    · omega
  · have h1 : (q.toInt.toNat + 1) * 2 ^ k.toInt.toNat ≤ 2 ^ E * 2 ^ k.toInt.toNat := Nat.mul_le_mul_right _ hQE
    have h2 : 2 ^ (E + k.toInt.toNat) ≤ 2 ^ 30 := Nat.pow_le_pow_right (by decide) hEK
    rw [Nat.pow_add] at h2
    omega
  · rw [hr, hms, own_andJ (own_onesN hK (by omega))]
    exact Nat.mod_lt _ (Nat.pow_pos (by decide))
def own_sm (d : Int64) : Prop := 0 ≤ d.toInt ∧ d.toInt < 2 ^ 30
theorem own_sm0 : own_sm (0 : Int64) := by unfold own_sm; decide
theorem own_okL {k q : Int32} {r : Int64} {K Q : Nat} (ok : own_ok k q r K Q) : (q.toInt64).toBitVec.toNat = Q := by
  obtain ⟨-, h, -⟩ := ok
  exact own_toL h
theorem own_dlt {k q : Int32} {r d : Int64} {K Q : Nat} (ok : own_ok k q r K Q) (e : d = (((q.toInt64) <<< (k &&& 0x3f).toInt64) ||| r)) : own_sm d := by
  have hL := own_okL ok
  obtain ⟨hk, hq, h2, h28, h63, -, hle, hr⟩ := ok
  have hs : ((q.toInt64) <<< (k &&& 0x3f).toInt64).toBitVec = (q.toInt64).toBitVec <<< K := own_shl64 _ (by omega) (by omega) (by omega)
  have hlt : 2 ^ K * Q + r.toBitVec.toNat < 2 ^ 30 := by
    rw [Nat.add_mul, Nat.one_mul, Nat.mul_comm Q] at hle
    omega
  have hn : d.toBitVec.toNat = 2 ^ K * Q + r.toBitVec.toNat := by
    rw [e, Int64.toBitVec_or, hs, BitVec.toNat_or, BitVec.toNat_shiftLeft, hL, Nat.shiftLeft_eq, Nat.mul_comm Q, Nat.mod_eq_of_lt (by omega), ← Nat.two_pow_add_eq_or_of_lt hr]
  have hi : d.toInt = ((2 ^ K * Q + r.toBitVec.toNat : Nat) : Int) := by
    show BitVec.toInt _ = _
    rw [BitVec.toInt_eq_toNat_cond, hn, if_pos (by omega)]
  exact ⟨by omega, by omega⟩
theorem own_sub32 {d1 d2 : Int64} (D1 : own_sm d1) (D2 : own_sm d2) : ((((4294967296 : Int64) - d1) - d2)).toInt = 4294967296 - d1.toInt - d2.toInt := by
  obtain ⟨a1, a2⟩ := D1
  obtain ⟨b1, b2⟩ := D2
  rw [Int64.toInt_sub, Int64.toInt_sub, show (4294967296 : Int64).toInt = 4294967296 from rfl, Int.bmod_eq_of_le (n := 4294967296 - d1.toInt) (by omega) (by omega), Int.bmod_eq_of_le (by omega) (by omega)]
theorem own_nz141 {d1 d2 : Int64} (D1 : own_sm d1) (D2 : own_sm d2) : ¬ ((((4294967296 : Int64) - d1) - d2) = (0 : Int64)) := fun q => by
  have e := own_sub32 D1 D2
  rw [q, show (0 : Int64).toInt = 0 from rfl] at e
  obtain ⟨a1, a2⟩ := D1
  obtain ⟨b1, b2⟩ := D2
  omega
theorem own_first {x y d1 d2 fs v1 v2 mx : Int64} (D1 : own_sm d1) (D2 : own_sm d2) (e : fs = ((x &&& (4294967295 : Int64)) % (((4294967296 : Int64) - d1) - d2))) (e1 : v1 = (fs + d1)) (e2 : v2 = (v1 + d2)) (e3 : mx = (own_rmx v2 y)) : ¬ (fs < (0 : Int64)) ∧ ¬ (mx < fs) ∧ ¬ (mx < v1) ∧ ¬ (mx < v2) := by
  have s := own_sub32 D1 D2
  obtain ⟨a1, a2⟩ := D1
  obtain ⟨b1, b2⟩ := D2
  have hx : (x &&& (4294967295 : Int64)).toInt = ((x.toBitVec.toNat % 2 ^ 32 : Nat) : Int) := by
    show BitVec.toInt _ = _
    rw [BitVec.toInt_eq_toNat_cond, own_andJ (E := 32) rfl, if_pos (by omega)]
  have hf : fs.toInt = ((x.toBitVec.toNat % 2 ^ 32 : Nat) : Int) % (4294967296 - d1.toInt - d2.toInt) := by
    rw [e, Int64.toInt_mod, s, hx, Int.tmod_eq_emod_of_nonneg (by omega)]
  have hf0 : 0 ≤ fs.toInt := by rw [hf]; exact Int.emod_nonneg _ (by omega)
  have hf1 : fs.toInt < 4294967296 - d1.toInt - d2.toInt := by rw [hf]; exact Int.emod_lt_of_pos _ (by omega)
  have h1 : v1.toInt = fs.toInt + d1.toInt := by rw [e1, Int64.toInt_add, Int.bmod_eq_of_le (by omega) (by omega)]
  have h2 : v2.toInt = v1.toInt + d2.toInt := by rw [e2, Int64.toInt_add, Int.bmod_eq_of_le (by omega) (by omega)]
  have h3 : v2.toInt ≤ mx.toInt := by
    rw [e3]; unfold own_rmx
    split
    · rename_i q; rw [Int64.lt_iff_toInt_lt] at q; omega
    · omega
  simp only [Int64.lt_iff_toInt_lt, show (0 : Int64).toInt = 0 from rfl]
  omega
theorem own_pos1 {p p' q k : Int32} {r : Int64} {P K Q : Nat} (ok : own_ok k q r K Q) (hp : p.toInt = (P : Int)) (hP : P ≤ 88) (e : p' = ((p + q) + (1 : Int32))) : p'.toInt = ((P + Q + 1 : Nat) : Int) := by
  obtain ⟨hk, hq, h2, h28, h63, h87, hle, hr⟩ := ok
  rw [e, Int32.toInt_add, Int32.toInt_add, show (1 : Int32).toInt = 1 from rfl, hp, hq, Int.bmod_eq_of_le (n := (P : Int) + Q) (by omega) (by omega), Int.bmod_eq_of_le (by omega) (by omega)]
  omega
theorem own_pos2 {p p' q k : Int32} {r : Int64} {P K Q : Nat} (ok : own_ok k q r K Q) (hp : p.toInt = ((P + Q + 1 : Nat) : Int)) (hP : P ≤ 88) (e : p' = (p + k)) : p'.toInt = ((P + Q + 1 + K : Nat) : Int) := by
  obtain ⟨hk, hq, h2, h28, h63, h87, hle, hr⟩ := ok
  rw [e, Int32.toInt_add, hp, hk, Int.bmod_eq_of_le (by omega) (by omega)]
  omega
theorem own_okb {k q : Int32} {r : Int64} {K Q : Nat} (ok : own_ok k q r K Q) : 0 + Q + 1 + K ≤ 88 := by
  obtain ⟨hk, hq, h2, h28, h63, h87, hle, hr⟩ := ok
  omega
theorem own_okb2 {k q : Int32} {r : Int64} {P K Q : Nat} (ok : own_ok k q r K Q) (hP : P ≤ 88) : P + Q + 1 + K < 192 := by
  obtain ⟨hk, hq, h2, h28, h63, h87, hle, hr⟩ := ok
  omega
theorem own_in192 {p : Int32} {P : Nat} (hp : p.toInt = (P : Int)) (hP : P < 192) : ¬ (p < (0 : Int32)) ∧ p < (192 : Int32) := by
  rw [Int32.lt_iff_toInt_lt, Int32.lt_iff_toInt_lt, show (0 : Int32).toInt = 0 from rfl, show (192 : Int32).toInt = 192 from rfl]
  omega
theorem own_r32i {k q : Int32} {r : Int64} {K Q : Nat} (ok : own_ok k q r K Q) : (r.toInt32).toInt = ((r.toBitVec.toNat : Nat) : Int) := by
  obtain ⟨hk, hq, h2, h28, h63, h87, hle, hr⟩ := ok
  have p28 : 2 ^ K ≤ 2 ^ 28 := Nat.pow_le_pow_right (by decide) h28
  exact own_to32 rfl (by omega)
theorem own_r32 {k q : Int32} {r : Int64} {K Q : Nat} (ok : own_ok k q r K Q) : ((r.toInt32).toInt64) = r := by
  have e := own_r32i ok
  apply Int64.toBitVec_inj.mp
  apply BitVec.eq_of_toNat_eq
  exact own_toL e
theorem own_W0 {f : Nat → Int64} (h : f = (fun _ => (0 : Int64))) : own_W f = 0 := by rw [h]; rfl
theorem own_pute {f f1 f2 : Nat → Int64} {v1 v2 : Int64} {p p' q k : Int32} {P Q K : Nat} (ok : own_ok k q v2 K Q) (hp : p.toInt = (P : Int)) (hp' : p'.toInt = ((P + Q + 1 : Nat) : Int)) (hP : P ≤ 88) (hlt : own_W f < 2 ^ P) (hv1 : v1 = (((1 : Int64) <<< (q &&& 0x3f).toInt64) - (1 : Int64)))
    (e1 : f1 = (own_rput f v1 p)) (e2 : f2 = (own_rput f1 v2 p')) : own_W f2 = own_W f + 2 ^ P * ((2 ^ Q - 1) + 2 ^ (Q + 1) * v2.toBitVec.toNat) ∧ own_W f2 < 2 ^ (P + Q + 1 + K) := by
  obtain ⟨hk, hq, h2, h28, h63, h87, hle, hr⟩ := ok
  have hv : v1.toBitVec.toNat = 2 ^ Q - 1 := by rw [hv1]; exact own_onesN hq h63
  have pq : 1 ≤ 2 ^ Q := Nat.one_le_two_pow
  have w1 : own_W f1 = own_W f + 2 ^ P * (2 ^ Q - 1) := by
    have l1 : 2 ^ Q - 1 < 2 ^ (192 - P) := by
      have : 2 ^ Q ≤ 2 ^ (192 - P) := Nat.pow_le_pow_right (by decide) (by omega)
      omega
    rw [e1, own_putW hp (by omega) rfl hlt, hv, Nat.mod_eq_of_lt l1]
  have lt1 : own_W f1 < 2 ^ (P + Q + 1) := by
    have h3 : 2 ^ P * (2 ^ Q - 1 + 1) = 2 ^ (P + Q) := by rw [Nat.sub_add_cancel pq, Nat.pow_add]
    rw [Nat.mul_add, Nat.mul_one] at h3
    rw [w1, Nat.pow_succ]
    omega
  have w2 : own_W f2 = own_W f1 + 2 ^ (P + Q + 1) * v2.toBitVec.toNat := by
    have l2 : v2.toBitVec.toNat < 2 ^ (192 - (P + Q + 1)) := Nat.lt_of_lt_of_le hr (Nat.pow_le_pow_right (by decide) (by omega))
    rw [e2, own_putW hp' (by omega) rfl lt1, Nat.mod_eq_of_lt l2]
  refine ⟨?_, ?_⟩
  · rw [w2, w1, Nat.add_assoc P Q 1, Nat.pow_add 2 P (Q + 1), Nat.mul_assoc, Nat.mul_add, Nat.add_assoc]
  · have h4 : 2 ^ (P + Q + 1) * (v2.toBitVec.toNat + 1) ≤ 2 ^ (P + Q + 1) * 2 ^ K := Nat.mul_le_mul_left _ hr
    rw [Nat.mul_add, Nat.mul_one, ← Nat.pow_add] at h4
    rw [w2]
    omega
theorem own_entG {D X P Q K R G : Nat} (hX : X < 2 ^ P) (hR : R < 2 ^ K) (hD : D = (X + 2 ^ P * ((2 ^ Q - 1) + 2 ^ (Q + 1) * R)) + 2 ^ (P + Q + 1 + K) * G) : own_ent D P Q K R := by
  have e : D = X + 2 ^ P * ((2 ^ Q - 1) + 2 ^ (Q + 1) * (R + 2 ^ K * G)) := by
    rw [hD, show P + Q + 1 + K = P + ((Q + 1) + K) by omega, Nat.pow_add 2 P, Nat.pow_add 2 (Q + 1) K, Nat.mul_assoc, Nat.add_assoc, ← Nat.mul_add, Nat.mul_add (2 ^ (Q + 1)), Nat.mul_assoc, Nat.add_assoc]
  rw [e]
  exact own_ent1 hX hR
theorem own_W1 {f f1 f2 f3 : Nat → Int64} {g v1 r1 : Int64} {p1 p2 q1 k : Int32} {Q1 K : Nat} (ok1 : own_ok k q1 r1 K Q1) (h0 : f = (fun _ => (0 : Int64))) (hv1 : v1 = (((1 : Int64) <<< (q1 &&& 0x3f).toInt64) - (1 : Int64))) (hp1 : p1.toInt = ((0 + Q1 + 1 : Nat) : Int)) (hp2 : p2.toInt = ((0 + Q1 + 1 + K : Nat) : Int))
    (e1 : f1 = (own_rput f v1 (0 : Int32))) (e2 : f2 = (own_rput f1 r1 p1)) (e3 : f3 = (own_rput f2 g p2)) : own_ent (own_W f3) 0 Q1 K r1.toBitVec.toNat := by
  have w0 := own_W0 h0
  obtain ⟨w2, l2⟩ := own_pute ok1 (show (0 : Int32).toInt = ((0 : Nat) : Int) from rfl) hp1 (by omega) (by rw [w0]; decide) hv1 e1 e2
  have b := own_okb ok1
  have w3 := own_putW (f := f2) (v := g) hp2 (by omega) rfl l2
  rw [← e3, w2, w0] at w3
  obtain ⟨hk, hq, h2, h28, h63, h87, hle, hr⟩ := ok1
  exact own_entG (by decide) hr w3
theorem own_W2 {f f1 f2 f3 f4 f5 : Nat → Int64} {g v1 r1 v2 r2 : Int64} {p1 p2 p3 p4 q1 q2 k : Int32} {Q1 Q2 K : Nat} (ok1 : own_ok k q1 r1 K Q1) (ok2 : own_ok k q2 r2 K Q2) (h0 : f = (fun _ => (0 : Int64))) (hv1 : v1 = (((1 : Int64) <<< (q1 &&& 0x3f).toInt64) - (1 : Int64))) (hv2 : v2 = (((1 : Int64) <<< (q2 &&& 0x3f).toInt64) - (1 : Int64)))
    (hp1 : p1.toInt = ((0 + Q1 + 1 : Nat) : Int)) (hp2 : p2.toInt = ((0 + Q1 + 1 + K : Nat) : Int)) (hp3 : p3.toInt = ((0 + Q1 + 1 + K + Q2 + 1 : Nat) : Int)) (hp4 : p4.toInt = ((0 + Q1 + 1 + K + Q2 + 1 + K : Nat) : Int))
    (e1 : f1 = (own_rput f v1 (0 : Int32))) (e2 : f2 = (own_rput f1 r1 p1)) (e3 : f3 = (own_rput f2 v2 p2)) (e4 : f4 = (own_rput f3 r2 p3)) (e5 : f5 = (own_rput f4 g p4)) : own_ent (own_W f5) 0 Q1 K r1.toBitVec.toNat ∧ own_ent (own_W f5) (0 + Q1 + 1 + K) Q2 K r2.toBitVec.toNat := by
  have w0 := own_W0 h0
  obtain ⟨w2, l2⟩ := own_pute ok1 (show (0 : Int32).toInt = ((0 : Nat) : Int) from rfl) hp1 (by omega) (by rw [w0]; decide) hv1 e1 e2
  have b := own_okb ok1
  have b2 := own_okb2 ok2 b
  obtain ⟨w4, l4⟩ := own_pute ok2 hp2 hp3 b l2 hv2 e3 e4
  have w5 := own_putW (f := f4) (v := g) hp4 b2 rfl l4
  rw [← e5] at w5
  obtain ⟨hk, hq, h2, h28, h63, h87, hle, hr⟩ := ok1
  obtain ⟨hk', hq', h2', h28', h63', h87', hle', hr'⟩ := ok2
  rw [w4] at w5
  refine ⟨?_, own_entG l2 hr' w5⟩
  rw [w2, w0] at w5
  refine own_entG (X := 0) (P := 0) (G := ((2 ^ Q2 - 1) + 2 ^ (Q2 + 1) * r2.toBitVec.toNat) + 2 ^ (Q2 + 1 + K) * (g.toBitVec.toNat % 2 ^ (192 - (0 + Q1 + 1 + K + Q2 + 1 + K)))) (by decide) hr ?_
  rw [w5, show 0 + Q1 + 1 + K + Q2 + 1 + K = (0 + Q1 + 1 + K) + (Q2 + 1 + K) by omega, Nat.pow_add 2 (0 + Q1 + 1 + K) (Q2 + 1 + K), Nat.mul_assoc, Nat.add_assoc, ← Nat.mul_add]
theorem own_mkb {g : Nat → Int64} {f0 f1 f2 f3 : Nat → Int32} {w0 w1 w2 : Int64} (e0 : w0 = (g 0)) (e1 : w1 = (g 1)) (e2 : w2 = (g 2)) (h1 : f1 = (own_up (own_up (own_up (own_up (own_up (own_up (own_up (own_up f0 0 (nar .byte ((w0.toInt32).toInt8.toInt32))) 1 (nar .byte ((((w0.toUInt64 >>> ((8 : Int32) &&& 0x3f).toInt64.toUInt64).toInt64).toInt32).toInt8.toInt32))) 2 (nar .byte ((((w0.toUInt64 >>> ((16 : Int32) &&& 0x3f).toInt64.toUInt64).toInt64).toInt32).toInt8.toInt32))) 3 (nar .byte ((((w0.toUInt64 >>> ((24 : Int32) &&& 0x3f).toInt64.toUInt64).toInt64).toInt32).toInt8.toInt32))) 4 (nar .byte ((((w0.toUInt64 >>> ((32 : Int32) &&& 0x3f).toInt64.toUInt64).toInt64).toInt32).toInt8.toInt32))) 5 (nar .byte ((((w0.toUInt64 >>> ((40 : Int32) &&& 0x3f).toInt64.toUInt64).toInt64).toInt32).toInt8.toInt32))) 6 (nar .byte ((((w0.toUInt64 >>> ((48 : Int32) &&& 0x3f).toInt64.toUInt64).toInt64).toInt32).toInt8.toInt32))) 7 (nar .byte ((((w0.toUInt64 >>> ((56 : Int32) &&& 0x3f).toInt64.toUInt64).toInt64).toInt32).toInt8.toInt32)))) (h2 : f2 = (own_up (own_up (own_up (own_up (own_up (own_up (own_up (own_up f1 8 (nar .byte ((w1.toInt32).toInt8.toInt32))) 9 (nar .byte ((((w1.toUInt64 >>> ((8 : Int32) &&& 0x3f).toInt64.toUInt64).toInt64).toInt32).toInt8.toInt32))) 10 (nar .byte ((((w1.toUInt64 >>> ((16 : Int32) &&& 0x3f).toInt64.toUInt64).toInt64).toInt32).toInt8.toInt32))) 11 (nar .byte ((((w1.toUInt64 >>> ((24 : Int32) &&& 0x3f).toInt64.toUInt64).toInt64).toInt32).toInt8.toInt32))) 12 (nar .byte ((((w1.toUInt64 >>> ((32 : Int32) &&& 0x3f).toInt64.toUInt64).toInt64).toInt32).toInt8.toInt32))) 13 (nar .byte ((((w1.toUInt64 >>> ((40 : Int32) &&& 0x3f).toInt64.toUInt64).toInt64).toInt32).toInt8.toInt32))) 14 (nar .byte ((((w1.toUInt64 >>> ((48 : Int32) &&& 0x3f).toInt64.toUInt64).toInt64).toInt32).toInt8.toInt32))) 15 (nar .byte ((((w1.toUInt64 >>> ((56 : Int32) &&& 0x3f).toInt64.toUInt64).toInt64).toInt32).toInt8.toInt32)))) (h3 : f3 = (own_up (own_up (own_up (own_up (own_up (own_up (own_up (own_up f2 16 (nar .byte ((w2.toInt32).toInt8.toInt32))) 17 (nar .byte ((((w2.toUInt64 >>> ((8 : Int32) &&& 0x3f).toInt64.toUInt64).toInt64).toInt32).toInt8.toInt32))) 18 (nar .byte ((((w2.toUInt64 >>> ((16 : Int32) &&& 0x3f).toInt64.toUInt64).toInt64).toInt32).toInt8.toInt32))) 19 (nar .byte ((((w2.toUInt64 >>> ((24 : Int32) &&& 0x3f).toInt64.toUInt64).toInt64).toInt32).toInt8.toInt32))) 20 (nar .byte ((((w2.toUInt64 >>> ((32 : Int32) &&& 0x3f).toInt64.toUInt64).toInt64).toInt32).toInt8.toInt32))) 21 (nar .byte ((((w2.toUInt64 >>> ((40 : Int32) &&& 0x3f).toInt64.toUInt64).toInt64).toInt32).toInt8.toInt32))) 22 (nar .byte ((((w2.toUInt64 >>> ((48 : Int32) &&& 0x3f).toInt64.toUInt64).toInt64).toInt32).toInt8.toInt32))) 23 (nar .byte ((((w2.toUInt64 >>> ((56 : Int32) &&& 0x3f).toInt64.toUInt64).toInt64).toInt32).toInt8.toInt32)))) : own_bytes (own_W g) f3 := by
  intro j hj
  obtain ⟨t, u, ht, hu, rfl⟩ : ∃ t u, t < 3 ∧ u < 8 ∧ j = 8 * t + u := ⟨j / 8, j % 8, by omega, by omega, by omega⟩
  rw [own_Wbyte ht hu]
  rcases t with _ | _ | _ | t
  · rw [← e0]
    rcases u with _ | _ | _ | _ | _ | _ | _ | _ | u
    · rw [show f3 (8 * 0 + 0) = nar .byte ((w0.toInt32).toInt8.toInt32) from by rw [h3, h2, h1]; rfl]; exact (own_b255 w0).trans (by rw [Nat.mul_zero, Nat.pow_zero, Nat.div_one])
    · rw [show f3 (8 * 0 + (0 + 1)) = nar .byte ((((w0.toUInt64 >>> ((8 : Int32) &&& 0x3f).toInt64.toUInt64).toInt64).toInt32).toInt8.toInt32) from by rw [h3, h2, h1]; rfl]; exact own_byteU w0 (k := (8 : Int32)) (u := 8) (by decide) (by decide) (by decide)
    · rw [show f3 (8 * 0 + (0 + 1 + 1)) = nar .byte ((((w0.toUInt64 >>> ((16 : Int32) &&& 0x3f).toInt64.toUInt64).toInt64).toInt32).toInt8.toInt32) from by rw [h3, h2, h1]; rfl]; exact own_byteU w0 (k := (16 : Int32)) (u := 16) (by decide) (by decide) (by decide)
    · rw [show f3 (8 * 0 + (0 + 1 + 1 + 1)) = nar .byte ((((w0.toUInt64 >>> ((24 : Int32) &&& 0x3f).toInt64.toUInt64).toInt64).toInt32).toInt8.toInt32) from by rw [h3, h2, h1]; rfl]; exact own_byteU w0 (k := (24 : Int32)) (u := 24) (by decide) (by decide) (by decide)
    · rw [show f3 (8 * 0 + (0 + 1 + 1 + 1 + 1)) = nar .byte ((((w0.toUInt64 >>> ((32 : Int32) &&& 0x3f).toInt64.toUInt64).toInt64).toInt32).toInt8.toInt32) from by rw [h3, h2, h1]; rfl]; exact own_byteU w0 (k := (32 : Int32)) (u := 32) (by decide) (by decide) (by decide)
    · rw [show f3 (8 * 0 + (0 + 1 + 1 + 1 + 1 + 1)) = nar .byte ((((w0.toUInt64 >>> ((40 : Int32) &&& 0x3f).toInt64.toUInt64).toInt64).toInt32).toInt8.toInt32) from by rw [h3, h2, h1]; rfl]; exact own_byteU w0 (k := (40 : Int32)) (u := 40) (by decide) (by decide) (by decide)
    · rw [show f3 (8 * 0 + (0 + 1 + 1 + 1 + 1 + 1 + 1)) = nar .byte ((((w0.toUInt64 >>> ((48 : Int32) &&& 0x3f).toInt64.toUInt64).toInt64).toInt32).toInt8.toInt32) from by rw [h3, h2, h1]; rfl]; exact own_byteU w0 (k := (48 : Int32)) (u := 48) (by decide) (by decide) (by decide)
    · rw [show f3 (8 * 0 + (0 + 1 + 1 + 1 + 1 + 1 + 1 + 1)) = nar .byte ((((w0.toUInt64 >>> ((56 : Int32) &&& 0x3f).toInt64.toUInt64).toInt64).toInt32).toInt8.toInt32) from by rw [h3, h2, h1]; rfl]; exact own_byteU w0 (k := (56 : Int32)) (u := 56) (by decide) (by decide) (by decide)
    · omega
  · rw [← e1]
    rcases u with _ | _ | _ | _ | _ | _ | _ | _ | u
    · rw [show f3 (8 * (0 + 1) + 0) = nar .byte ((w1.toInt32).toInt8.toInt32) from by rw [h3, h2]; rfl]; exact (own_b255 w1).trans (by rw [Nat.mul_zero, Nat.pow_zero, Nat.div_one])
    · rw [show f3 (8 * (0 + 1) + (0 + 1)) = nar .byte ((((w1.toUInt64 >>> ((8 : Int32) &&& 0x3f).toInt64.toUInt64).toInt64).toInt32).toInt8.toInt32) from by rw [h3, h2]; rfl]; exact own_byteU w1 (k := (8 : Int32)) (u := 8) (by decide) (by decide) (by decide)
    · rw [show f3 (8 * (0 + 1) + (0 + 1 + 1)) = nar .byte ((((w1.toUInt64 >>> ((16 : Int32) &&& 0x3f).toInt64.toUInt64).toInt64).toInt32).toInt8.toInt32) from by rw [h3, h2]; rfl]; exact own_byteU w1 (k := (16 : Int32)) (u := 16) (by decide) (by decide) (by decide)
    · rw [show f3 (8 * (0 + 1) + (0 + 1 + 1 + 1)) = nar .byte ((((w1.toUInt64 >>> ((24 : Int32) &&& 0x3f).toInt64.toUInt64).toInt64).toInt32).toInt8.toInt32) from by rw [h3, h2]; rfl]; exact own_byteU w1 (k := (24 : Int32)) (u := 24) (by decide) (by decide) (by decide)
    · rw [show f3 (8 * (0 + 1) + (0 + 1 + 1 + 1 + 1)) = nar .byte ((((w1.toUInt64 >>> ((32 : Int32) &&& 0x3f).toInt64.toUInt64).toInt64).toInt32).toInt8.toInt32) from by rw [h3, h2]; rfl]; exact own_byteU w1 (k := (32 : Int32)) (u := 32) (by decide) (by decide) (by decide)
    · rw [show f3 (8 * (0 + 1) + (0 + 1 + 1 + 1 + 1 + 1)) = nar .byte ((((w1.toUInt64 >>> ((40 : Int32) &&& 0x3f).toInt64.toUInt64).toInt64).toInt32).toInt8.toInt32) from by rw [h3, h2]; rfl]; exact own_byteU w1 (k := (40 : Int32)) (u := 40) (by decide) (by decide) (by decide)
    · rw [show f3 (8 * (0 + 1) + (0 + 1 + 1 + 1 + 1 + 1 + 1)) = nar .byte ((((w1.toUInt64 >>> ((48 : Int32) &&& 0x3f).toInt64.toUInt64).toInt64).toInt32).toInt8.toInt32) from by rw [h3, h2]; rfl]; exact own_byteU w1 (k := (48 : Int32)) (u := 48) (by decide) (by decide) (by decide)
    · rw [show f3 (8 * (0 + 1) + (0 + 1 + 1 + 1 + 1 + 1 + 1 + 1)) = nar .byte ((((w1.toUInt64 >>> ((56 : Int32) &&& 0x3f).toInt64.toUInt64).toInt64).toInt32).toInt8.toInt32) from by rw [h3, h2]; rfl]; exact own_byteU w1 (k := (56 : Int32)) (u := 56) (by decide) (by decide) (by decide)
    · omega
  · rw [← e2]
    rcases u with _ | _ | _ | _ | _ | _ | _ | _ | u
    · rw [show f3 (8 * (0 + 1 + 1) + 0) = nar .byte ((w2.toInt32).toInt8.toInt32) from by rw [h3]; rfl]; exact (own_b255 w2).trans (by rw [Nat.mul_zero, Nat.pow_zero, Nat.div_one])
    · rw [show f3 (8 * (0 + 1 + 1) + (0 + 1)) = nar .byte ((((w2.toUInt64 >>> ((8 : Int32) &&& 0x3f).toInt64.toUInt64).toInt64).toInt32).toInt8.toInt32) from by rw [h3]; rfl]; exact own_byteU w2 (k := (8 : Int32)) (u := 8) (by decide) (by decide) (by decide)
    · rw [show f3 (8 * (0 + 1 + 1) + (0 + 1 + 1)) = nar .byte ((((w2.toUInt64 >>> ((16 : Int32) &&& 0x3f).toInt64.toUInt64).toInt64).toInt32).toInt8.toInt32) from by rw [h3]; rfl]; exact own_byteU w2 (k := (16 : Int32)) (u := 16) (by decide) (by decide) (by decide)
    · rw [show f3 (8 * (0 + 1 + 1) + (0 + 1 + 1 + 1)) = nar .byte ((((w2.toUInt64 >>> ((24 : Int32) &&& 0x3f).toInt64.toUInt64).toInt64).toInt32).toInt8.toInt32) from by rw [h3]; rfl]; exact own_byteU w2 (k := (24 : Int32)) (u := 24) (by decide) (by decide) (by decide)
    · rw [show f3 (8 * (0 + 1 + 1) + (0 + 1 + 1 + 1 + 1)) = nar .byte ((((w2.toUInt64 >>> ((32 : Int32) &&& 0x3f).toInt64.toUInt64).toInt64).toInt32).toInt8.toInt32) from by rw [h3]; rfl]; exact own_byteU w2 (k := (32 : Int32)) (u := 32) (by decide) (by decide) (by decide)
    · rw [show f3 (8 * (0 + 1 + 1) + (0 + 1 + 1 + 1 + 1 + 1)) = nar .byte ((((w2.toUInt64 >>> ((40 : Int32) &&& 0x3f).toInt64.toUInt64).toInt64).toInt32).toInt8.toInt32) from by rw [h3]; rfl]; exact own_byteU w2 (k := (40 : Int32)) (u := 40) (by decide) (by decide) (by decide)
    · rw [show f3 (8 * (0 + 1 + 1) + (0 + 1 + 1 + 1 + 1 + 1 + 1)) = nar .byte ((((w2.toUInt64 >>> ((48 : Int32) &&& 0x3f).toInt64.toUInt64).toInt64).toInt32).toInt8.toInt32) from by rw [h3]; rfl]; exact own_byteU w2 (k := (48 : Int32)) (u := 48) (by decide) (by decide) (by decide)
    · rw [show f3 (8 * (0 + 1 + 1) + (0 + 1 + 1 + 1 + 1 + 1 + 1 + 1)) = nar .byte ((((w2.toUInt64 >>> ((56 : Int32) &&& 0x3f).toInt64.toUInt64).toInt64).toInt32).toInt8.toInt32) from by rw [h3]; rfl]; exact own_byteU w2 (k := (56 : Int32)) (u := 56) (by decide) (by decide) (by decide)
    · omega
  · omega

theorem pd10 : parseMethodDescriptor "(JJ)J" = some ⟨[.long, .long], some .long⟩ := by decide +kernel
theorem pd11 : parseMethodDescriptor "([JJI)V" = some ⟨[(.array .long), .long, .int], none⟩ := by decide +kernel
theorem pd12 : parseMethodDescriptor "([BIJ)V" = some ⟨[(.array .byte), .int, .long], none⟩ := by decide +kernel
theorem pd13 : parseMethodDescriptor "(JII[BJ)[I" = some ⟨[.long, .int, .int, (.array .byte), .long], some (.array .int)⟩ := by decide +kernel
theorem ef_0 (m : MethodId) (q0 : Int64) (p1 : Int32) (q2 : Int64) (q3 : Int64) (q4 : Int64) (q5 : Int64) : entryFrame m #[(.long q0), (.int p1), (.long q2), (.long q3), (.long q4), (.long q5)] maxLocals = mkF m 0 #[.val (.long q0), .second, .val (.int p1), .val (.long q2), .second, .val (.long q3), .second, .val (.long q4), .second, .val (.long q5), .second, .unset, .unset, .unset, .unset, .unset, .unset, .unset, .unset, .unset, .unset, .unset, .unset, .unset, .unset, .unset, .unset, .unset, .unset, .unset, .unset, .unset, .unset, .unset, .unset, .unset, .unset, .unset, .unset] [] := by (first | (simp [entryFrame, mkF, argsToLocals, Value.category, maxLocals]; done) | rfl)
def Q0 (Z : State) (q0 : Int64) (p1 : Int32) (q2 : Int64) (q3 : Int64) (q4 : Int64) (q5 : Int64) (h0 : Heap) (n0 : Nat) (v : Option Value) (h : Heap) (L : List Loc) : Prop := v = some (.int 1) ∧ Fr n0 L
set_option maxRecDepth 65536 in
set_option maxHeartbeats 40000000 in
theorem rm0 (l : Launch) (Z : State) (a0 : Array Value) (hw : ∀ d ∈ tables_1, d.before a0 Z = true) (ws : List Jvm.Cond) (q0 : Int64) (p1 : Int32) (q2 : Int64) (q3 : Int64) (q4 : Int64) (q5 : Int64) (h0 : Heap) (n0 : Nat) (Z0 : n0 ≤ h0.size) :
    MetFree l x (head1 (Jvm.Cond.code x code maxLocals ret :: ws) room_1) (fun a U => a = #[(.long q0), (.int p1), (.long q2), (.long q3), (.long q4), (.long q5)] ∧ Z.Warmed39 U.vm ∧ U.heap = h0) (fun _ _ _ _ _ => True) (fun _ U o U' => ∃ v L, o = .returned v ∧ Q0 Z q0 p1 q2 q3 q4 q5 h0 n0 v U'.heap L ∧ FrameEnd U o U' L room_1.cells room_1.slots) := by
  refine MetFree.of_bodySF (plainFor_of_name pn3) hisR ?_
  intro p e s m args below meth c s₁ Bd hml0 hP hK
  obtain ⟨rfl, hZ, hh⟩ := hP
  have hx := Bd.exec
  have hby := Bd.bytes
  have hml : c.maxLocals = 39 := hml0
  have hown : s.vm.findClass "com/example/canonic/canonic/RiceCodeDecodePinLaw" = some m.cls := findClass_of_methodNamed Bd.named
  have hnm := (name_of_methodNamed Bd.named Bd.method).1
  have X0 : Stand p l e room_1 s m #[(.long q0), (.int p1), (.long q2), (.long q3), (.long q4), (.long q5)] below meth c s₁ [] 0 0 := Stand.of_body Bd
  have e0 : s₁.heap = h0 := by rw [← hh, Bd.state]; rfl
  have N0 := Fr.nil n0
  have K0 : Keep h0 h0 [] := Keep.refl h0 _
  show own_Go p e below s (Q0 Z q0 p1 q2 q3 q4 q5 h0 n0) room_1.cells room_1.slots (s₁.setTop (entryFrame m #[(.long q0), (.int p1), (.long q2), (.long q3), (.long q4), (.long q5)] maxLocals))
  refine own_go (fun t k => castTop (ef_0 m q0 p1 q2 q3 q4 q5) k) ?_
  have hnz5_101 : ¬ ((3 : Int32) = (0 : Int32)) := by decide
  obtain ⟨v1, hv1⟩ : ∃ z : Int32, z = ((p1 &&& (2147483647 : Int32)) % (3 : Int32)) := ⟨_, rfl⟩
  have hgo102 : ∀ t, Steps p.tables e below (s₁.setTop (mkF m 8 #[.val (.long q0), .second, .val (.int p1), .val (.long q2), .second, .val (.long q3), .second, .val (.long q4), .second, .val (.long q5), .second, .val (.int v1), .unset, .unset, .unset, .unset, .unset, .unset, .unset, .unset, .unset, .unset, .unset, .unset, .unset, .unset, .unset, .unset, .unset, .unset, .unset, .unset, .unset, .unset, .unset, .unset, .unset, .unset, .unset] [])) t → Steps p.tables e below (s₁.setTop (mkF m 0 #[.val (.long q0), .second, .val (.int p1), .val (.long q2), .second, .val (.long q3), .second, .val (.long q4), .second, .val (.long q5), .second, .unset, .unset, .unset, .unset, .unset, .unset, .unset, .unset, .unset, .unset, .unset, .unset, .unset, .unset, .unset, .unset, .unset, .unset, .unset, .unset, .unset, .unset, .unset, .unset, .unset, .unset, .unset, .unset] [])) t := by
    intro t kt
    show Steps p.tables e below (s₁.setTop (mkF m 0 #[.val (.long q0), .second, .val (.int p1), .val (.long q2), .second, .val (.long q3), .second, .val (.long q4), .second, .val (.long q5), .second, .unset, .unset, .unset, .unset, .unset, .unset, .unset, .unset, .unset, .unset, .unset, .unset, .unset, .unset, .unset, .unset, .unset, .unset, .unset, .unset, .unset, .unset, .unset, .unset, .unset, .unset, .unset, .unset] [])) _
    refine XS.iloadN X0.here hx rfl (hb hby at_0) rfl ?_
    show Steps p.tables e below (s₁.setTop (mkF m 1 #[.val (.long q0), .second, .val (.int p1), .val (.long q2), .second, .val (.long q3), .second, .val (.long q4), .second, .val (.long q5), .second, .unset, .unset, .unset, .unset, .unset, .unset, .unset, .unset, .unset, .unset, .unset, .unset, .unset, .unset, .unset, .unset, .unset, .unset, .unset, .unset, .unset, .unset, .unset, .unset, .unset, .unset, .unset, .unset] [(.int p1)])) _
    refine X0.ldcInt hx hown (mvT hZ (hw _ (List.mem_of_getElem? (i := 0) rfl))) (g := (mkF m 1 #[.val (.long q0), .second, .val (.int p1), .val (.long q2), .second, .val (.long q3), .second, .val (.long q4), .second, .val (.long q5), .second, .unset, .unset, .unset, .unset, .unset, .unset, .unset, .unset, .unset, .unset, .unset, .unset, .unset, .unset, .unset, .unset, .unset, .unset, .unset, .unset, .unset, .unset, .unset, .unset, .unset, .unset, .unset, .unset] [(.int p1)])) rfl (hb hby at_1) _ ?_
    show Steps p.tables e below (s₁.setTop (mkF m 3 #[.val (.long q0), .second, .val (.int p1), .val (.long q2), .second, .val (.long q3), .second, .val (.long q4), .second, .val (.long q5), .second, .unset, .unset, .unset, .unset, .unset, .unset, .unset, .unset, .unset, .unset, .unset, .unset, .unset, .unset, .unset, .unset, .unset, .unset, .unset, .unset, .unset, .unset, .unset, .unset, .unset, .unset, .unset, .unset] [(.int (2147483647 : Int32)), (.int p1)])) _
    refine XS.iand X0.here hx rfl (hb hby at_3) rfl ?_
    show Steps p.tables e below (s₁.setTop (mkF m 4 #[.val (.long q0), .second, .val (.int p1), .val (.long q2), .second, .val (.long q3), .second, .val (.long q4), .second, .val (.long q5), .second, .unset, .unset, .unset, .unset, .unset, .unset, .unset, .unset, .unset, .unset, .unset, .unset, .unset, .unset, .unset, .unset, .unset, .unset, .unset, .unset, .unset, .unset, .unset, .unset, .unset, .unset, .unset, .unset] [(.int (p1 &&& (2147483647 : Int32)))])) _
    refine XS.iconst X0.here hx rfl (hb hby at_4) ?_
    show Steps p.tables e below (s₁.setTop (mkF m 5 #[.val (.long q0), .second, .val (.int p1), .val (.long q2), .second, .val (.long q3), .second, .val (.long q4), .second, .val (.long q5), .second, .unset, .unset, .unset, .unset, .unset, .unset, .unset, .unset, .unset, .unset, .unset, .unset, .unset, .unset, .unset, .unset, .unset, .unset, .unset, .unset, .unset, .unset, .unset, .unset, .unset, .unset, .unset, .unset] [(.int (3 : Int32)), (.int (p1 &&& (2147483647 : Int32)))])) _
    refine XS.irem X0.here hx rfl (hb hby at_5) rfl hnz5_101 ?_
    rw [own_remI (p1 &&& (2147483647 : Int32)) (3 : Int32)]
    show Steps p.tables e below (s₁.setTop (mkF m 6 #[.val (.long q0), .second, .val (.int p1), .val (.long q2), .second, .val (.long q3), .second, .val (.long q4), .second, .val (.long q5), .second, .unset, .unset, .unset, .unset, .unset, .unset, .unset, .unset, .unset, .unset, .unset, .unset, .unset, .unset, .unset, .unset, .unset, .unset, .unset, .unset, .unset, .unset, .unset, .unset, .unset, .unset, .unset, .unset] [(.int ((p1 &&& (2147483647 : Int32)) % (3 : Int32)))])) _
    rw [← hv1]
    show Steps p.tables e below (s₁.setTop (mkF m 6 #[.val (.long q0), .second, .val (.int p1), .val (.long q2), .second, .val (.long q3), .second, .val (.long q4), .second, .val (.long q5), .second, .unset, .unset, .unset, .unset, .unset, .unset, .unset, .unset, .unset, .unset, .unset, .unset, .unset, .unset, .unset, .unset, .unset, .unset, .unset, .unset, .unset, .unset, .unset, .unset, .unset, .unset, .unset, .unset] [(.int v1)])) _
    refine XS.istore X0.here hx rfl (hb hby at_6) rfl (l' := #[.val (.long q0), .second, .val (.int p1), .val (.long q2), .second, .val (.long q3), .second, .val (.long q4), .second, .val (.long q5), .second, .val (.int v1), .unset, .unset, .unset, .unset, .unset, .unset, .unset, .unset, .unset, .unset, .unset, .unset, .unset, .unset, .unset, .unset, .unset, .unset, .unset, .unset, .unset, .unset, .unset, .unset, .unset, .unset, .unset]) rfl ?_
    exact kt
  refine own_go hgo102 ?_
  by_cases hs8_2 : v1 = (0 : Int32)
  · have hnz14_103 : ¬ ((27 : Int32) = (0 : Int32)) := by decide
    obtain ⟨v3, hv3⟩ : ∃ z : Int32, z = ((2 : Int32) + (((p1.toUInt32 >>> ((2 : Int32) &&& 31).toUInt32).toInt32) % (27 : Int32))) := ⟨_, rfl⟩
    obtain ⟨v5, hv5⟩ : ∃ z : Int32, z = (if v3 < (25 : Int32) then (63 : Int32) else (((1 : Int32) <<< (((30 : Int32) - v3) &&& 31)) - (1 : Int32))) := ⟨_, rfl⟩
    obtain ⟨T106, lc106, X106, N106, e106, st106⟩ := own_mrg (n0 := n0) (h := h0) (g := (mkF m 22 #[.val (.long q0), .second, .val (.int p1), .val (.long q2), .second, .val (.long q3), .second, .val (.long q4), .second, .val (.long q5), .second, .val (.int (0 : Int32)), .val (.int v3), .unset, .unset, .unset, .unset, .unset, .unset, .unset, .unset, .unset, .unset, .unset, .unset, .unset, .unset, .unset, .unset, .unset, .unset, .unset, .unset, .unset, .unset, .unset, .unset, .unset, .unset] [(.int (25 : Int32)), (.int v3)])) (g' := (mkF m 39 #[.val (.long q0), .second, .val (.int p1), .val (.long q2), .second, .val (.long q3), .second, .val (.long q4), .second, .val (.long q5), .second, .val (.int (0 : Int32)), .val (.int v3), .unset, .unset, .unset, .unset, .unset, .unset, .unset, .unset, .unset, .unset, .unset, .unset, .unset, .unset, .unset, .unset, .unset, .unset, .unset, .unset, .unset, .unset, .unset, .unset, .unset, .unset] [(.int v5)])) X0 (by
      by_cases hc22_4 : v3 < (25 : Int32)
      · have hgo104 : ∀ t, Steps p.tables e below (s₁.setTop (mkF m 39 #[.val (.long q0), .second, .val (.int p1), .val (.long q2), .second, .val (.long q3), .second, .val (.long q4), .second, .val (.long q5), .second, .val (.int (0 : Int32)), .val (.int v3), .unset, .unset, .unset, .unset, .unset, .unset, .unset, .unset, .unset, .unset, .unset, .unset, .unset, .unset, .unset, .unset, .unset, .unset, .unset, .unset, .unset, .unset, .unset, .unset, .unset, .unset] [(.int (63 : Int32))])) t → Steps p.tables e below (s₁.setTop (mkF m 22 #[.val (.long q0), .second, .val (.int p1), .val (.long q2), .second, .val (.long q3), .second, .val (.long q4), .second, .val (.long q5), .second, .val (.int (0 : Int32)), .val (.int v3), .unset, .unset, .unset, .unset, .unset, .unset, .unset, .unset, .unset, .unset, .unset, .unset, .unset, .unset, .unset, .unset, .unset, .unset, .unset, .unset, .unset, .unset, .unset, .unset, .unset, .unset] [(.int (25 : Int32)), (.int v3)])) t := by
          intro t kt
          show Steps p.tables e below (s₁.setTop (mkF m 22 #[.val (.long q0), .second, .val (.int p1), .val (.long q2), .second, .val (.long q3), .second, .val (.long q4), .second, .val (.long q5), .second, .val (.int (0 : Int32)), .val (.int v3), .unset, .unset, .unset, .unset, .unset, .unset, .unset, .unset, .unset, .unset, .unset, .unset, .unset, .unset, .unset, .unset, .unset, .unset, .unset, .unset, .unset, .unset, .unset, .unset, .unset, .unset] [(.int (25 : Int32)), (.int v3)])) _
          refine XS.icmpYes X0.here hx rfl (pc0 := 22) (pc' := 37) rfl (hb hby at_22) rfl (tlt hc22_4).1 (by decide) (by decide) ?_
          show Steps p.tables e below (s₁.setTop (mkF m 37 #[.val (.long q0), .second, .val (.int p1), .val (.long q2), .second, .val (.long q3), .second, .val (.long q4), .second, .val (.long q5), .second, .val (.int (0 : Int32)), .val (.int v3), .unset, .unset, .unset, .unset, .unset, .unset, .unset, .unset, .unset, .unset, .unset, .unset, .unset, .unset, .unset, .unset, .unset, .unset, .unset, .unset, .unset, .unset, .unset, .unset, .unset, .unset] [])) _
          refine XS.bipush X0.here hx rfl (hb hby at_37) ?_
          exact kt
        refine own_arm hgo104 ?_
        exact own_armEnd X0 N0 e0 (by rw [hv5.trans (if_pos hc22_4)])
      · have hgo105 : ∀ t, Steps p.tables e below (s₁.setTop (mkF m 39 #[.val (.long q0), .second, .val (.int p1), .val (.long q2), .second, .val (.long q3), .second, .val (.long q4), .second, .val (.long q5), .second, .val (.int (0 : Int32)), .val (.int v3), .unset, .unset, .unset, .unset, .unset, .unset, .unset, .unset, .unset, .unset, .unset, .unset, .unset, .unset, .unset, .unset, .unset, .unset, .unset, .unset, .unset, .unset, .unset, .unset, .unset, .unset] [(.int (((1 : Int32) <<< (((30 : Int32) - v3) &&& 31)) - (1 : Int32)))])) t → Steps p.tables e below (s₁.setTop (mkF m 22 #[.val (.long q0), .second, .val (.int p1), .val (.long q2), .second, .val (.long q3), .second, .val (.long q4), .second, .val (.long q5), .second, .val (.int (0 : Int32)), .val (.int v3), .unset, .unset, .unset, .unset, .unset, .unset, .unset, .unset, .unset, .unset, .unset, .unset, .unset, .unset, .unset, .unset, .unset, .unset, .unset, .unset, .unset, .unset, .unset, .unset, .unset, .unset] [(.int (25 : Int32)), (.int v3)])) t := by
          intro t kt
          show Steps p.tables e below (s₁.setTop (mkF m 22 #[.val (.long q0), .second, .val (.int p1), .val (.long q2), .second, .val (.long q3), .second, .val (.long q4), .second, .val (.long q5), .second, .val (.int (0 : Int32)), .val (.int v3), .unset, .unset, .unset, .unset, .unset, .unset, .unset, .unset, .unset, .unset, .unset, .unset, .unset, .unset, .unset, .unset, .unset, .unset, .unset, .unset, .unset, .unset, .unset, .unset, .unset, .unset] [(.int (25 : Int32)), (.int v3)])) _
          refine XS.icmpNo X0.here hx rfl (hb hby at_22) rfl (flt hc22_4).1 ?_
          show Steps p.tables e below (s₁.setTop (mkF m 25 #[.val (.long q0), .second, .val (.int p1), .val (.long q2), .second, .val (.long q3), .second, .val (.long q4), .second, .val (.long q5), .second, .val (.int (0 : Int32)), .val (.int v3), .unset, .unset, .unset, .unset, .unset, .unset, .unset, .unset, .unset, .unset, .unset, .unset, .unset, .unset, .unset, .unset, .unset, .unset, .unset, .unset, .unset, .unset, .unset, .unset, .unset, .unset] [])) _
          refine XS.iconst X0.here hx rfl (hb hby at_25) ?_
          refine XS.bipush X0.here hx rfl (hb hby at_26) ?_
          refine XS.iload X0.here hx rfl (hb hby at_28) rfl ?_
          show Steps p.tables e below (s₁.setTop (mkF m 30 #[.val (.long q0), .second, .val (.int p1), .val (.long q2), .second, .val (.long q3), .second, .val (.long q4), .second, .val (.long q5), .second, .val (.int (0 : Int32)), .val (.int v3), .unset, .unset, .unset, .unset, .unset, .unset, .unset, .unset, .unset, .unset, .unset, .unset, .unset, .unset, .unset, .unset, .unset, .unset, .unset, .unset, .unset, .unset, .unset, .unset, .unset, .unset] [(.int v3), (.int (30 : Int32)), (.int (1 : Int32))])) _
          refine XS.isub X0.here hx rfl (hb hby at_30) rfl ?_
          show Steps p.tables e below (s₁.setTop (mkF m 31 #[.val (.long q0), .second, .val (.int p1), .val (.long q2), .second, .val (.long q3), .second, .val (.long q4), .second, .val (.long q5), .second, .val (.int (0 : Int32)), .val (.int v3), .unset, .unset, .unset, .unset, .unset, .unset, .unset, .unset, .unset, .unset, .unset, .unset, .unset, .unset, .unset, .unset, .unset, .unset, .unset, .unset, .unset, .unset, .unset, .unset, .unset, .unset] [(.int ((30 : Int32) - v3)), (.int (1 : Int32))])) _
          refine XS.ishl X0.here hx rfl (hb hby at_31) rfl ?_
          show Steps p.tables e below (s₁.setTop (mkF m 32 #[.val (.long q0), .second, .val (.int p1), .val (.long q2), .second, .val (.long q3), .second, .val (.long q4), .second, .val (.long q5), .second, .val (.int (0 : Int32)), .val (.int v3), .unset, .unset, .unset, .unset, .unset, .unset, .unset, .unset, .unset, .unset, .unset, .unset, .unset, .unset, .unset, .unset, .unset, .unset, .unset, .unset, .unset, .unset, .unset, .unset, .unset, .unset] [(.int ((1 : Int32) <<< (((30 : Int32) - v3) &&& 31)))])) _
          refine XS.iconst X0.here hx rfl (hb hby at_32) ?_
          refine XS.isub X0.here hx rfl (hb hby at_33) rfl ?_
          show Steps p.tables e below (s₁.setTop (mkF m 34 #[.val (.long q0), .second, .val (.int p1), .val (.long q2), .second, .val (.long q3), .second, .val (.long q4), .second, .val (.long q5), .second, .val (.int (0 : Int32)), .val (.int v3), .unset, .unset, .unset, .unset, .unset, .unset, .unset, .unset, .unset, .unset, .unset, .unset, .unset, .unset, .unset, .unset, .unset, .unset, .unset, .unset, .unset, .unset, .unset, .unset, .unset, .unset] [(.int (((1 : Int32) <<< (((30 : Int32) - v3) &&& 31)) - (1 : Int32)))])) _
          refine XS.goto X0.here hx rfl (pc0 := 34) (pc' := 39) rfl (hb hby at_34) (by decide) (by decide) ?_
          exact kt
        refine own_arm hgo105 ?_
        exact own_armEnd X0 N0 e0 (by rw [hv5.trans (if_neg hc22_4)]))
    obtain ⟨v6, hv6⟩ : ∃ z : Int64, z = (((1 : Int64) <<< (v3 &&& 0x3f).toInt64) - (1 : Int64)) := ⟨_, rfl⟩
    obtain ⟨v7, hv7⟩ : ∃ z : Int32, z = ((q2 &&& (v5.toInt64)).toInt32) := ⟨_, rfl⟩
    obtain ⟨v8, hv8⟩ : ∃ z : Int64, z = (((q2.toUInt64 >>> ((6 : Int32) &&& 0x3f).toInt64.toUInt64).toInt64) &&& v6) := ⟨_, rfl⟩
    obtain ⟨v9, hv9⟩ : ∃ z : Int32, z = ((q3 &&& (v5.toInt64)).toInt32) := ⟨_, rfl⟩
    obtain ⟨v10, hv10⟩ : ∃ z : Int64, z = (((q3.toUInt64 >>> ((6 : Int32) &&& 0x3f).toInt64.toUInt64).toInt64) &&& v6) := ⟨_, rfl⟩
    have D1 := own_sm0
    have D2 := own_sm0
    have hnz141_107 : ¬ ((4294967296 : Int64) = (0 : Int64)) := by decide
    obtain ⟨v11, hv11⟩ : ∃ z : Int64, z = ((q0 &&& (4294967295 : Int64)) % (4294967296 : Int64)) := ⟨_, rfl⟩
    obtain ⟨v12, hv12⟩ : ∃ z : Int64, z = (v11 + (0 : Int64)) := ⟨_, rfl⟩
    obtain ⟨v13, hv13⟩ : ∃ z : Int64, z = (v12 + (0 : Int64)) := ⟨_, rfl⟩
    obtain ⟨v14, hv14⟩ : ∃ z : Int64, z = (q4 &&& (4294967295 : Int64)) := ⟨_, rfl⟩
    obtain ⟨_, _, ⟨T108, L108, k108, n108⟩, -, X108, ⟨Lc108, hQ108, l108, y108, z108⟩, st108⟩ := Jvm.LawKit.callS X106 hx (y := (⟨"java/lang/Math", "max", "(JJ)J"⟩ : MethodName)) hown (mvT hZ (hw _ (List.mem_of_getElem? (i := 3) rfl))) (mvT hZ (hw _ (List.mem_of_getElem? (i := 4) rfl))) (mvT hZ (hw _ (List.mem_of_getElem? (i := 5) rfl))) (mvT hZ (hw _ (List.mem_of_getElem? (i := 6) rfl))) (by decide) (backOf (W := 0) (rmmx l Z a0 hw [] v13 v14 h0 n0 Z0 ) hZ (hw _ (List.mem_of_getElem? (i := 6) rfl)) (hw _ (List.mem_of_getElem? (i := 5) rfl)) (by decide) (by decide)) (g := (mkF m 166 #[.val (.long q0), .second, .val (.int p1), .val (.long q2), .second, .val (.long q3), .second, .val (.long q4), .second, .val (.long q5), .second, .val (.int (0 : Int32)), .val (.int v3), .val (.int v5), .val (.long v6), .second, .val (.int v7), .val (.long v8), .second, .val (.int v9), .val (.long v10), .second, .val (.long (0 : Int64)), .second, .val (.long (0 : Int64)), .second, .val (.long v11), .second, .val (.long v12), .second, .val (.long v13), .second, .unset, .unset, .unset, .unset, .unset, .unset, .unset] [(.long v14), (.long v13)])) rfl (by rw [hml]; rfl) (argsL := [(.long v13), (.long v14)]) (rest := []) (lenOf pd10 rfl) rfl (by show 2 * 0 + _ ≤ _; exact Nat.le_of_eq rfl) (hb hby at_166) (fun _ _ => ⟨rfl, e106, (by decide : 0 + 0 ≤ _), (by decide : 0 + 0 ≤ _)⟩)
    dsimp only [Pt.U, Pt.locs, Pt.cells, Pt.slots] at X108 l108 y108 z108 st108 hQ108
    subst l108 y108 z108
    obtain ⟨rfl, N108q, e108⟩ := hQ108
    have N108 := Fr.app N106 N108q
    obtain ⟨v15, hv15⟩ : ∃ z : Int64, z = (own_rmx v13 v14) := ⟨_, rfl⟩
    obtain ⟨v16, hv16⟩ : ∃ z : Int32, z = (q3.toInt32) := ⟨_, rfl⟩
    obtain ⟨fs0, fs1, fs2, fs3⟩ := own_first D1 D2 (by rw [hv11, show (((4294967296 : Int64) - (0 : Int64)) - (0 : Int64)) = (4294967296 : Int64) from by decide]) hv12 hv13 hv15
    obtain ⟨T109, h109, k109, X109, e109, E109, A109, st109⟩ := newP X108 hx hZ (hw _ (List.mem_of_getElem? (i := 7) rfl)) e108 (g := (mkF m 187 #[.val (.long q0), .second, .val (.int p1), .val (.long q2), .second, .val (.long q3), .second, .val (.long q4), .second, .val (.long q5), .second, .val (.int (0 : Int32)), .val (.int v3), .val (.int v5), .val (.long v6), .second, .val (.int v7), .val (.long v8), .second, .val (.int v9), .val (.long v10), .second, .val (.long (0 : Int64)), .second, .val (.long (0 : Int64)), .second, .val (.long v11), .second, .val (.long v12), .second, .val (.long v13), .second, .val (.long v15), .second, .val (.int v16), .unset, .unset, .unset, .unset] [(.int (3 : Int32))])) rfl (hb hby at_187) rfl (by decide) (cap := 3) (by decide) (by decide) (by decide) (by decide)
    obtain ⟨b109, g109⟩ : ∃ z, z = h0.size := ⟨_, rfl⟩
    rw [← g109] at A109 st109
    have g_b109 : n0 ≤ b109 := Nat.le_trans Z0 (Nat.le_of_eq g109.symm)
    have sz_b109 : h0.size ≤ b109 := Nat.le_trans K0.1 (Nat.le_of_eq g109.symm)
    have Z110 : n0 ≤ h109.size := Nat.le_trans Z0 E109.1
    have K111 : Keep h0 h109 [] := K0.ext E109
    obtain ⟨v17, hv17⟩ : ∃ z : Nat → Int64, z = (fun _ => (0 : Int64)) := ⟨_, rfl⟩
    have F112 : own_AJ Z h109 b109 .long 3 v17 := by rw [hv17]; exact own_AJ.new A109 rfl (by decide)
    obtain ⟨_, _, ⟨T113, L113, k113, n113⟩, -, X113, ⟨Lc113, hQ113, l113, y113, z113⟩, st113⟩ := Jvm.LawKit.callS X109 hx (y := (⟨"com/example/canonic/canonic/RiceCodeDecodePinLaw", "put", "([JJI)V"⟩ : MethodName)) hown (mvT hZ (hw _ (List.mem_of_getElem? (i := 8) rfl))) (mvT hZ (hw _ (List.mem_of_getElem? (i := 9) rfl))) (mvT hZ (hw _ (List.mem_of_getElem? (i := 10) rfl))) (mvT hZ (hw _ (List.mem_of_getElem? (i := 11) rfl))) (by decide) (backOf (W := 0) (rmpt l Z a0 hw [] b109 q5 (0 : Int32) v17 h109 n0 Z110 F112 (by decide : ¬ ((0 : Int32) < (0 : Int32))) (by decide : (0 : Int32) < (192 : Int32)) g_b109) hZ (hw _ (List.mem_of_getElem? (i := 11) rfl)) (hw _ (List.mem_of_getElem? (i := 10) rfl)) (by decide) (by decide)) (g := (mkF m 288 #[.val (.long q0), .second, .val (.int p1), .val (.long q2), .second, .val (.long q3), .second, .val (.long q4), .second, .val (.long q5), .second, .val (.int (0 : Int32)), .val (.int v3), .val (.int v5), .val (.long v6), .second, .val (.int v7), .val (.long v8), .second, .val (.int v9), .val (.long v10), .second, .val (.long (0 : Int64)), .second, .val (.long (0 : Int64)), .second, .val (.long v11), .second, .val (.long v12), .second, .val (.long v13), .second, .val (.long v15), .second, .val (.int v16), .val (.ref b109), .val (.int (0 : Int32)), .unset, .unset] [(.int (0 : Int32)), (.long q5), (.ref b109)])) rfl (by rw [hml]; rfl) (argsL := [(.ref b109), (.long q5), (.int (0 : Int32))]) (rest := []) (lenOf pd11 rfl) rfl (by show 2 * 0 + _ ≤ _; exact Nat.le_of_eq rfl) (hb hby at_288) (fun _ _ => ⟨rfl, e109, (by decide : 1 + 0 ≤ _), (by decide : 3 + 0 ≤ _)⟩)
    dsimp only [Pt.U, Pt.locs, Pt.cells, Pt.slots] at X113 l113 y113 z113 st113 hQ113
    subst l113 y113 z113
    obtain ⟨rfl, N113q, K113q, F113_0⟩ := hQ113
    have Z114 : n0 ≤ T113.heap.size := Nat.le_trans Z110 K113q.1
    have K115 : Keep h0 T113.heap [] := K111.trans K113q (allS (Or.inr sz_b109) all0)
    obtain ⟨v18, hv18⟩ : ∃ z : Nat → Int64, z = (own_rput v17 q5 (0 : Int32)) := ⟨_, rfl⟩
    have F113_0n : own_AJ Z T113.heap b109 .long 3 v18 := by rw [hv18]; exact F113_0
    have N113 := Fr.app N108 N113q
    obtain ⟨T116, h116, k116, X116, e116, E116, A116, st116⟩ := newP X113 hx hZ (hw _ (List.mem_of_getElem? (i := 12) rfl)) (rfl : T113.heap = T113.heap) (g := (mkF m 293 #[.val (.long q0), .second, .val (.int p1), .val (.long q2), .second, .val (.long q3), .second, .val (.long q4), .second, .val (.long q5), .second, .val (.int (0 : Int32)), .val (.int v3), .val (.int v5), .val (.long v6), .second, .val (.int v7), .val (.long v8), .second, .val (.int v9), .val (.long v10), .second, .val (.long (0 : Int64)), .second, .val (.long (0 : Int64)), .second, .val (.long v11), .second, .val (.long v12), .second, .val (.long v13), .second, .val (.long v15), .second, .val (.int v16), .val (.ref b109), .val (.int (0 : Int32)), .unset, .unset] [(.int (24 : Int32))])) rfl (hb hby at_293) rfl (by decide) (cap := 24) (by decide) (by decide) (by decide) (by decide)
    obtain ⟨b116, g116⟩ : ∃ z, z = T113.heap.size := ⟨_, rfl⟩
    rw [← g116] at A116 st116
    have ne_b109_b116 : b109 ≠ b116 := Nat.ne_of_lt (Nat.lt_of_lt_of_le F113_0n.lt (Nat.le_of_eq g116.symm))
    have g_b116 : n0 ≤ b116 := Nat.le_trans Z114 (Nat.le_of_eq g116.symm)
    have sz_b116 : h0.size ≤ b116 := Nat.le_trans K115.1 (Nat.le_of_eq g116.symm)
    have F117 := F113_0n.ext E116
    have Z118 : n0 ≤ h116.size := Nat.le_trans Z114 E116.1
    have K119 : Keep h0 h116 [] := K115.ext E116
    obtain ⟨v19, hv19⟩ : ∃ z : Nat → Int32, z = (fun _ => (0 : Int32)) := ⟨_, rfl⟩
    have F120 : own_AI Z h116 b116 .byte 24 v19 := by rw [hv19]; exact own_AI.new A116 rfl (by decide)
    have hin303_121 : ¬ (0 : Int32) < 0 ∧ (0 : Int32).toNatClampNeg < 3 := by decide
    obtain ⟨v20, hv20⟩ : ∃ z : Int64, z = (v18 0) := ⟨_, rfl⟩
    obtain ⟨_, _, ⟨T122, L122, k122, n122⟩, -, X122, ⟨Lc122, hQ122, l122, y122, z122⟩, st122⟩ := Jvm.LawKit.callS X116 hx (y := (⟨"com/example/canonic/canonic/RiceCodeDecodePinLaw", "put8", "([BIJ)V"⟩ : MethodName)) hown (mvT hZ (hw _ (List.mem_of_getElem? (i := 13) rfl))) (mvT hZ (hw _ (List.mem_of_getElem? (i := 14) rfl))) (mvT hZ (hw _ (List.mem_of_getElem? (i := 10) rfl))) (mvT hZ (hw _ (List.mem_of_getElem? (i := 15) rfl))) (by decide) (backOf (W := 0) (rmp8_0 l Z a0 hw [] b116 (0 : Int32) v20 v19 h116 n0 Z118 F120 (by first | assumption | decide : (0 : Int32) = (0 : Int32)) g_b116) hZ (hw _ (List.mem_of_getElem? (i := 15) rfl)) (hw _ (List.mem_of_getElem? (i := 10) rfl)) (by decide) (by decide)) (g := (mkF m 304 #[.val (.long q0), .second, .val (.int p1), .val (.long q2), .second, .val (.long q3), .second, .val (.long q4), .second, .val (.long q5), .second, .val (.int (0 : Int32)), .val (.int v3), .val (.int v5), .val (.long v6), .second, .val (.int v7), .val (.long v8), .second, .val (.int v9), .val (.long v10), .second, .val (.long (0 : Int64)), .second, .val (.long (0 : Int64)), .second, .val (.long v11), .second, .val (.long v12), .second, .val (.long v13), .second, .val (.long v15), .second, .val (.int v16), .val (.ref b109), .val (.int (0 : Int32)), .val (.ref b116), .unset] [(.long v20), (.int (0 : Int32)), (.ref b116)])) rfl (by rw [hml]; rfl) (argsL := [(.ref b116), (.int (0 : Int32)), (.long v20)]) (rest := []) (lenOf pd12 rfl) rfl (by show 2 * 0 + _ ≤ _; exact Nat.le_of_eq rfl) (hb hby at_304) (fun _ _ => ⟨rfl, e116, (by decide : 2 + 0 ≤ _), (by decide : 27 + 0 ≤ _)⟩)
    dsimp only [Pt.U, Pt.locs, Pt.cells, Pt.slots] at X122 l122 y122 z122 st122 hQ122
    subst l122 y122 z122
    obtain ⟨rfl, N122q, K122q, F122_0⟩ := hQ122
    have F123 := F117.keep K122q (ninS ne_b109_b116 nin0)
    have Z124 : n0 ≤ T122.heap.size := Nat.le_trans Z118 K122q.1
    have K125 : Keep h0 T122.heap [] := K119.trans K122q (allS (Or.inr sz_b116) all0)
    obtain ⟨v21, hv21⟩ : ∃ z : Nat → Int32, z = (own_up (own_up (own_up (own_up (own_up (own_up (own_up (own_up v19 0 (nar .byte ((v20.toInt32).toInt8.toInt32))) 1 (nar .byte ((((v20.toUInt64 >>> ((8 : Int32) &&& 0x3f).toInt64.toUInt64).toInt64).toInt32).toInt8.toInt32))) 2 (nar .byte ((((v20.toUInt64 >>> ((16 : Int32) &&& 0x3f).toInt64.toUInt64).toInt64).toInt32).toInt8.toInt32))) 3 (nar .byte ((((v20.toUInt64 >>> ((24 : Int32) &&& 0x3f).toInt64.toUInt64).toInt64).toInt32).toInt8.toInt32))) 4 (nar .byte ((((v20.toUInt64 >>> ((32 : Int32) &&& 0x3f).toInt64.toUInt64).toInt64).toInt32).toInt8.toInt32))) 5 (nar .byte ((((v20.toUInt64 >>> ((40 : Int32) &&& 0x3f).toInt64.toUInt64).toInt64).toInt32).toInt8.toInt32))) 6 (nar .byte ((((v20.toUInt64 >>> ((48 : Int32) &&& 0x3f).toInt64.toUInt64).toInt64).toInt32).toInt8.toInt32))) 7 (nar .byte ((((v20.toUInt64 >>> ((56 : Int32) &&& 0x3f).toInt64.toUInt64).toInt64).toInt32).toInt8.toInt32))) := ⟨_, rfl⟩
    have F122_0n : own_AI Z T122.heap b116 .byte 24 v21 := by rw [hv21]; exact F122_0
    have N122 := Fr.app N113 N122q
    have hin314_126 : ¬ (1 : Int32) < 0 ∧ (1 : Int32).toNatClampNeg < 3 := by decide
    obtain ⟨v22, hv22⟩ : ∃ z : Int64, z = (v18 1) := ⟨_, rfl⟩
    obtain ⟨_, _, ⟨T127, L127, k127, n127⟩, -, X127, ⟨Lc127, hQ127, l127, y127, z127⟩, st127⟩ := Jvm.LawKit.callS X122 hx (y := (⟨"com/example/canonic/canonic/RiceCodeDecodePinLaw", "put8", "([BIJ)V"⟩ : MethodName)) hown (mvT hZ (hw _ (List.mem_of_getElem? (i := 13) rfl))) (mvT hZ (hw _ (List.mem_of_getElem? (i := 14) rfl))) (mvT hZ (hw _ (List.mem_of_getElem? (i := 10) rfl))) (mvT hZ (hw _ (List.mem_of_getElem? (i := 15) rfl))) (by decide) (backOf (W := 0) (rmp8_8 l Z a0 hw [] b116 (8 : Int32) v22 v21 (T122.heap) n0 Z124 F122_0n (by first | assumption | decide : (8 : Int32) = (8 : Int32)) g_b116) hZ (hw _ (List.mem_of_getElem? (i := 15) rfl)) (hw _ (List.mem_of_getElem? (i := 10) rfl)) (by decide) (by decide)) (g := (mkF m 315 #[.val (.long q0), .second, .val (.int p1), .val (.long q2), .second, .val (.long q3), .second, .val (.long q4), .second, .val (.long q5), .second, .val (.int (0 : Int32)), .val (.int v3), .val (.int v5), .val (.long v6), .second, .val (.int v7), .val (.long v8), .second, .val (.int v9), .val (.long v10), .second, .val (.long (0 : Int64)), .second, .val (.long (0 : Int64)), .second, .val (.long v11), .second, .val (.long v12), .second, .val (.long v13), .second, .val (.long v15), .second, .val (.int v16), .val (.ref b109), .val (.int (0 : Int32)), .val (.ref b116), .unset] [(.long v22), (.int (8 : Int32)), (.ref b116)])) rfl (by rw [hml]; rfl) (argsL := [(.ref b116), (.int (8 : Int32)), (.long v22)]) (rest := []) (lenOf pd12 rfl) rfl (by show 2 * 0 + _ ≤ _; exact Nat.le_of_eq rfl) (hb hby at_315) (fun _ _ => ⟨rfl, (rfl : T122.heap = T122.heap), (by decide : 2 + 0 ≤ _), (by decide : 27 + 0 ≤ _)⟩)
    dsimp only [Pt.U, Pt.locs, Pt.cells, Pt.slots] at X127 l127 y127 z127 st127 hQ127
    subst l127 y127 z127
    obtain ⟨rfl, N127q, K127q, F127_0⟩ := hQ127
    have F128 := F123.keep K127q (ninS ne_b109_b116 nin0)
    have Z129 : n0 ≤ T127.heap.size := Nat.le_trans Z124 K127q.1
    have K130 : Keep h0 T127.heap [] := K125.trans K127q (allS (Or.inr sz_b116) all0)
    obtain ⟨v23, hv23⟩ : ∃ z : Nat → Int32, z = (own_up (own_up (own_up (own_up (own_up (own_up (own_up (own_up v21 8 (nar .byte ((v22.toInt32).toInt8.toInt32))) 9 (nar .byte ((((v22.toUInt64 >>> ((8 : Int32) &&& 0x3f).toInt64.toUInt64).toInt64).toInt32).toInt8.toInt32))) 10 (nar .byte ((((v22.toUInt64 >>> ((16 : Int32) &&& 0x3f).toInt64.toUInt64).toInt64).toInt32).toInt8.toInt32))) 11 (nar .byte ((((v22.toUInt64 >>> ((24 : Int32) &&& 0x3f).toInt64.toUInt64).toInt64).toInt32).toInt8.toInt32))) 12 (nar .byte ((((v22.toUInt64 >>> ((32 : Int32) &&& 0x3f).toInt64.toUInt64).toInt64).toInt32).toInt8.toInt32))) 13 (nar .byte ((((v22.toUInt64 >>> ((40 : Int32) &&& 0x3f).toInt64.toUInt64).toInt64).toInt32).toInt8.toInt32))) 14 (nar .byte ((((v22.toUInt64 >>> ((48 : Int32) &&& 0x3f).toInt64.toUInt64).toInt64).toInt32).toInt8.toInt32))) 15 (nar .byte ((((v22.toUInt64 >>> ((56 : Int32) &&& 0x3f).toInt64.toUInt64).toInt64).toInt32).toInt8.toInt32))) := ⟨_, rfl⟩
    have F127_0n : own_AI Z T127.heap b116 .byte 24 v23 := by rw [hv23]; exact F127_0
    have N127 := Fr.app N122 N127q
    have hin325_131 : ¬ (2 : Int32) < 0 ∧ (2 : Int32).toNatClampNeg < 3 := by decide
    obtain ⟨v24, hv24⟩ : ∃ z : Int64, z = (v18 2) := ⟨_, rfl⟩
    obtain ⟨_, _, ⟨T132, L132, k132, n132⟩, -, X132, ⟨Lc132, hQ132, l132, y132, z132⟩, st132⟩ := Jvm.LawKit.callS X127 hx (y := (⟨"com/example/canonic/canonic/RiceCodeDecodePinLaw", "put8", "([BIJ)V"⟩ : MethodName)) hown (mvT hZ (hw _ (List.mem_of_getElem? (i := 13) rfl))) (mvT hZ (hw _ (List.mem_of_getElem? (i := 14) rfl))) (mvT hZ (hw _ (List.mem_of_getElem? (i := 10) rfl))) (mvT hZ (hw _ (List.mem_of_getElem? (i := 15) rfl))) (by decide) (backOf (W := 0) (rmp8_16 l Z a0 hw [] b116 (16 : Int32) v24 v23 (T127.heap) n0 Z129 F127_0n (by first | assumption | decide : (16 : Int32) = (16 : Int32)) g_b116) hZ (hw _ (List.mem_of_getElem? (i := 15) rfl)) (hw _ (List.mem_of_getElem? (i := 10) rfl)) (by decide) (by decide)) (g := (mkF m 326 #[.val (.long q0), .second, .val (.int p1), .val (.long q2), .second, .val (.long q3), .second, .val (.long q4), .second, .val (.long q5), .second, .val (.int (0 : Int32)), .val (.int v3), .val (.int v5), .val (.long v6), .second, .val (.int v7), .val (.long v8), .second, .val (.int v9), .val (.long v10), .second, .val (.long (0 : Int64)), .second, .val (.long (0 : Int64)), .second, .val (.long v11), .second, .val (.long v12), .second, .val (.long v13), .second, .val (.long v15), .second, .val (.int v16), .val (.ref b109), .val (.int (0 : Int32)), .val (.ref b116), .unset] [(.long v24), (.int (16 : Int32)), (.ref b116)])) rfl (by rw [hml]; rfl) (argsL := [(.ref b116), (.int (16 : Int32)), (.long v24)]) (rest := []) (lenOf pd12 rfl) rfl (by show 2 * 0 + _ ≤ _; exact Nat.le_of_eq rfl) (hb hby at_326) (fun _ _ => ⟨rfl, (rfl : T127.heap = T127.heap), (by decide : 2 + 0 ≤ _), (by decide : 27 + 0 ≤ _)⟩)
    dsimp only [Pt.U, Pt.locs, Pt.cells, Pt.slots] at X132 l132 y132 z132 st132 hQ132
    subst l132 y132 z132
    obtain ⟨rfl, N132q, K132q, F132_0⟩ := hQ132
    have F133 := F128.keep K132q (ninS ne_b109_b116 nin0)
    have Z134 : n0 ≤ T132.heap.size := Nat.le_trans Z129 K132q.1
    have K135 : Keep h0 T132.heap [] := K130.trans K132q (allS (Or.inr sz_b116) all0)
    obtain ⟨v25, hv25⟩ : ∃ z : Nat → Int32, z = (own_up (own_up (own_up (own_up (own_up (own_up (own_up (own_up v23 16 (nar .byte ((v24.toInt32).toInt8.toInt32))) 17 (nar .byte ((((v24.toUInt64 >>> ((8 : Int32) &&& 0x3f).toInt64.toUInt64).toInt64).toInt32).toInt8.toInt32))) 18 (nar .byte ((((v24.toUInt64 >>> ((16 : Int32) &&& 0x3f).toInt64.toUInt64).toInt64).toInt32).toInt8.toInt32))) 19 (nar .byte ((((v24.toUInt64 >>> ((24 : Int32) &&& 0x3f).toInt64.toUInt64).toInt64).toInt32).toInt8.toInt32))) 20 (nar .byte ((((v24.toUInt64 >>> ((32 : Int32) &&& 0x3f).toInt64.toUInt64).toInt64).toInt32).toInt8.toInt32))) 21 (nar .byte ((((v24.toUInt64 >>> ((40 : Int32) &&& 0x3f).toInt64.toUInt64).toInt64).toInt32).toInt8.toInt32))) 22 (nar .byte ((((v24.toUInt64 >>> ((48 : Int32) &&& 0x3f).toInt64.toUInt64).toInt64).toInt32).toInt8.toInt32))) 23 (nar .byte ((((v24.toUInt64 >>> ((56 : Int32) &&& 0x3f).toInt64.toUInt64).toInt64).toInt32).toInt8.toInt32))) := ⟨_, rfl⟩
    have F132_0n : own_AI Z T132.heap b116 .byte 24 v25 := by rw [hv25]; exact F132_0
    have N132 := Fr.app N127 N132q
    have HB : own_bytes (own_W v18) v25 := own_mkb hv20 hv22 hv24 hv21 hv23 hv25
    obtain ⟨_, _, ⟨T136, L136, k136, n136⟩, -, X136, ⟨Lc136, hQ136, l136, y136, z136⟩, st136⟩ := Jvm.LawKit.callS X132 hx (y := (⟨"com/example/canonic/canonic/RiceCode", "decode", "(JII[BJ)[I"⟩ : MethodName)) hown (mvT hZ (hw _ (List.mem_of_getElem? (i := 16) rfl))) (mvT hZ (hw _ (List.mem_of_getElem? (i := 17) rfl))) (mvT hZ (hw _ (List.mem_of_getElem? (i := 18) rfl))) (mvT hZ (hw _ (List.mem_of_getElem? (i := 19) rfl))) (by decide) (backOf (W := 0) (rmdc0 l Z a0 hw [] v11 v16 (0 : Int32) b116 v15 v25 (own_W v18) (T132.heap) n0 Z134 F132_0n (HB : own_bytes (own_W v18) v25) (fs0 : ¬ (v11 < (0 : Int64))) (fs1 : ¬ (v15 < v11)) (by first | assumption | decide : (0 : Int32) = (0 : Int32))) hZ (hw _ (List.mem_of_getElem? (i := 19) rfl)) (hw _ (List.mem_of_getElem? (i := 18) rfl)) (by decide) (by decide)) (g := (mkF m 339 #[.val (.long q0), .second, .val (.int p1), .val (.long q2), .second, .val (.long q3), .second, .val (.long q4), .second, .val (.long q5), .second, .val (.int (0 : Int32)), .val (.int v3), .val (.int v5), .val (.long v6), .second, .val (.int v7), .val (.long v8), .second, .val (.int v9), .val (.long v10), .second, .val (.long (0 : Int64)), .second, .val (.long (0 : Int64)), .second, .val (.long v11), .second, .val (.long v12), .second, .val (.long v13), .second, .val (.long v15), .second, .val (.int v16), .val (.ref b109), .val (.int (0 : Int32)), .val (.ref b116), .unset] [(.long v15), (.ref b116), (.int (0 : Int32)), (.int v16), (.long v11)])) rfl (by rw [hml]; rfl) (argsL := [(.long v11), (.int v16), (.int (0 : Int32)), (.ref b116), (.long v15)]) (rest := []) (lenOf pd13 rfl) rfl (by show 2 * 0 + _ ≤ _; exact Nat.le_of_eq rfl) (hb hby at_339) (fun _ _ => ⟨rfl, (rfl : T132.heap = T132.heap), (by decide : 2 + 2 ≤ _), (by decide : 27 + 5 ≤ _)⟩)
    dsimp only [Pt.U, Pt.locs, Pt.cells, Pt.slots] at X136 l136 y136 z136 st136 hQ136
    subst l136 y136 z136
    obtain ⟨b136_0, rfl, N136q, K136q, F136_0, F136_1⟩ := hQ136
    have F137 := F133.keep K136q nin0
    have F138 := F132_0n.keep K136q nin0
    have Z139 : n0 ≤ T136.heap.size := Nat.le_trans Z134 K136q.1
    have K140 : Keep h0 T136.heap [] := K135.trans K136q all0
    have g_b136_0 : n0 ≤ b136_0 := Nat.le_trans Z134 F136_0
    have sz_b136_0 : h0.size ≤ b136_0 := Nat.le_trans K135.1 F136_0
    have ne_b109_b136_0 : b109 ≠ b136_0 := Nat.ne_of_lt (Nat.lt_of_lt_of_le F133.lt F136_0)
    have ne_b116_b136_0 : b116 ≠ b136_0 := Nat.ne_of_lt (Nat.lt_of_lt_of_le F132_0n.lt F136_0)
    obtain ⟨v26, hv26⟩ : ∃ z : Nat → Int32, z = (own_up (fun _ => (0 : Int32)) 0 (v11.toInt32)) := ⟨_, rfl⟩
    have F136_1n : own_AI Z T136.heap b136_0 .int 1 v26 := by rw [hv26]; exact F136_1
    have N136 := Fr.app N132 N136q
    have hin359_141 : ¬ (0 : Int32) < 0 ∧ (0 : Int32).toNatClampNeg < 1 := by decide
    have hgo142 : ∀ t, Steps p.tables e below (T136.setTop (mkF m 405 #[.val (.long q0), .second, .val (.int p1), .val (.long q2), .second, .val (.long q3), .second, .val (.long q4), .second, .val (.long q5), .second, .val (.int (0 : Int32)), .val (.int v3), .val (.int v5), .val (.long v6), .second, .val (.int v7), .val (.long v8), .second, .val (.int v9), .val (.long v10), .second, .val (.long (0 : Int64)), .second, .val (.long (0 : Int64)), .second, .val (.long v11), .second, .val (.long v12), .second, .val (.long v13), .second, .val (.long v15), .second, .val (.int v16), .val (.ref b109), .val (.int (0 : Int32)), .val (.ref b116), .val (.ref b136_0)] [(.int (1 : Int32))])) t → Steps p.tables e below (s₁.setTop (mkF m 8 #[.val (.long q0), .second, .val (.int p1), .val (.long q2), .second, .val (.long q3), .second, .val (.long q4), .second, .val (.long q5), .second, .val (.int v1), .unset, .unset, .unset, .unset, .unset, .unset, .unset, .unset, .unset, .unset, .unset, .unset, .unset, .unset, .unset, .unset, .unset, .unset, .unset, .unset, .unset, .unset, .unset, .unset, .unset, .unset, .unset] [])) t := by
      intro t kt
      show Steps p.tables e below (s₁.setTop (mkF m 8 #[.val (.long q0), .second, .val (.int p1), .val (.long q2), .second, .val (.long q3), .second, .val (.long q4), .second, .val (.long q5), .second, .val (.int v1), .unset, .unset, .unset, .unset, .unset, .unset, .unset, .unset, .unset, .unset, .unset, .unset, .unset, .unset, .unset, .unset, .unset, .unset, .unset, .unset, .unset, .unset, .unset, .unset, .unset, .unset, .unset] [])) _
      rw [hs8_2]
      show Steps p.tables e below (s₁.setTop (mkF m 8 #[.val (.long q0), .second, .val (.int p1), .val (.long q2), .second, .val (.long q3), .second, .val (.long q4), .second, .val (.long q5), .second, .val (.int (0 : Int32)), .unset, .unset, .unset, .unset, .unset, .unset, .unset, .unset, .unset, .unset, .unset, .unset, .unset, .unset, .unset, .unset, .unset, .unset, .unset, .unset, .unset, .unset, .unset, .unset, .unset, .unset, .unset] [])) _
      refine XS.iconst X0.here hx rfl (hb hby at_8) ?_
      refine XS.iloadN X0.here hx rfl (hb hby at_9) rfl ?_
      refine XS.iconst X0.here hx rfl (hb hby at_10) ?_
      show Steps p.tables e below (s₁.setTop (mkF m 11 #[.val (.long q0), .second, .val (.int p1), .val (.long q2), .second, .val (.long q3), .second, .val (.long q4), .second, .val (.long q5), .second, .val (.int (0 : Int32)), .unset, .unset, .unset, .unset, .unset, .unset, .unset, .unset, .unset, .unset, .unset, .unset, .unset, .unset, .unset, .unset, .unset, .unset, .unset, .unset, .unset, .unset, .unset, .unset, .unset, .unset, .unset] [(.int (2 : Int32)), (.int p1), (.int (2 : Int32))])) _
      refine XS.iushr X0.here hx rfl (hb hby at_11) rfl ?_
      show Steps p.tables e below (s₁.setTop (mkF m 12 #[.val (.long q0), .second, .val (.int p1), .val (.long q2), .second, .val (.long q3), .second, .val (.long q4), .second, .val (.long q5), .second, .val (.int (0 : Int32)), .unset, .unset, .unset, .unset, .unset, .unset, .unset, .unset, .unset, .unset, .unset, .unset, .unset, .unset, .unset, .unset, .unset, .unset, .unset, .unset, .unset, .unset, .unset, .unset, .unset, .unset, .unset] [(.int ((p1.toUInt32 >>> ((2 : Int32) &&& 31).toUInt32).toInt32)), (.int (2 : Int32))])) _
      refine XS.bipush X0.here hx rfl (hb hby at_12) ?_
      show Steps p.tables e below (s₁.setTop (mkF m 14 #[.val (.long q0), .second, .val (.int p1), .val (.long q2), .second, .val (.long q3), .second, .val (.long q4), .second, .val (.long q5), .second, .val (.int (0 : Int32)), .unset, .unset, .unset, .unset, .unset, .unset, .unset, .unset, .unset, .unset, .unset, .unset, .unset, .unset, .unset, .unset, .unset, .unset, .unset, .unset, .unset, .unset, .unset, .unset, .unset, .unset, .unset] [(.int (27 : Int32)), (.int ((p1.toUInt32 >>> ((2 : Int32) &&& 31).toUInt32).toInt32)), (.int (2 : Int32))])) _
      refine XS.irem X0.here hx rfl (hb hby at_14) rfl hnz14_103 ?_
      rw [own_remI ((p1.toUInt32 >>> ((2 : Int32) &&& 31).toUInt32).toInt32) (27 : Int32)]
      show Steps p.tables e below (s₁.setTop (mkF m 15 #[.val (.long q0), .second, .val (.int p1), .val (.long q2), .second, .val (.long q3), .second, .val (.long q4), .second, .val (.long q5), .second, .val (.int (0 : Int32)), .unset, .unset, .unset, .unset, .unset, .unset, .unset, .unset, .unset, .unset, .unset, .unset, .unset, .unset, .unset, .unset, .unset, .unset, .unset, .unset, .unset, .unset, .unset, .unset, .unset, .unset, .unset] [(.int (((p1.toUInt32 >>> ((2 : Int32) &&& 31).toUInt32).toInt32) % (27 : Int32))), (.int (2 : Int32))])) _
      refine XS.iadd X0.here hx rfl (hb hby at_15) rfl ?_
      show Steps p.tables e below (s₁.setTop (mkF m 16 #[.val (.long q0), .second, .val (.int p1), .val (.long q2), .second, .val (.long q3), .second, .val (.long q4), .second, .val (.long q5), .second, .val (.int (0 : Int32)), .unset, .unset, .unset, .unset, .unset, .unset, .unset, .unset, .unset, .unset, .unset, .unset, .unset, .unset, .unset, .unset, .unset, .unset, .unset, .unset, .unset, .unset, .unset, .unset, .unset, .unset, .unset] [(.int ((2 : Int32) + (((p1.toUInt32 >>> ((2 : Int32) &&& 31).toUInt32).toInt32) % (27 : Int32))))])) _
      rw [← hv3]
      show Steps p.tables e below (s₁.setTop (mkF m 16 #[.val (.long q0), .second, .val (.int p1), .val (.long q2), .second, .val (.long q3), .second, .val (.long q4), .second, .val (.long q5), .second, .val (.int (0 : Int32)), .unset, .unset, .unset, .unset, .unset, .unset, .unset, .unset, .unset, .unset, .unset, .unset, .unset, .unset, .unset, .unset, .unset, .unset, .unset, .unset, .unset, .unset, .unset, .unset, .unset, .unset, .unset] [(.int v3)])) _
      refine XS.istore X0.here hx rfl (hb hby at_16) rfl (l' := #[.val (.long q0), .second, .val (.int p1), .val (.long q2), .second, .val (.long q3), .second, .val (.long q4), .second, .val (.long q5), .second, .val (.int (0 : Int32)), .val (.int v3), .unset, .unset, .unset, .unset, .unset, .unset, .unset, .unset, .unset, .unset, .unset, .unset, .unset, .unset, .unset, .unset, .unset, .unset, .unset, .unset, .unset, .unset, .unset, .unset, .unset, .unset]) rfl ?_
      show Steps p.tables e below (s₁.setTop (mkF m 18 #[.val (.long q0), .second, .val (.int p1), .val (.long q2), .second, .val (.long q3), .second, .val (.long q4), .second, .val (.long q5), .second, .val (.int (0 : Int32)), .val (.int v3), .unset, .unset, .unset, .unset, .unset, .unset, .unset, .unset, .unset, .unset, .unset, .unset, .unset, .unset, .unset, .unset, .unset, .unset, .unset, .unset, .unset, .unset, .unset, .unset, .unset, .unset] [])) _
      refine XS.iload X0.here hx rfl (hb hby at_18) rfl ?_
      refine XS.bipush X0.here hx rfl (hb hby at_20) ?_
      show Steps p.tables e below (s₁.setTop (mkF m 22 #[.val (.long q0), .second, .val (.int p1), .val (.long q2), .second, .val (.long q3), .second, .val (.long q4), .second, .val (.long q5), .second, .val (.int (0 : Int32)), .val (.int v3), .unset, .unset, .unset, .unset, .unset, .unset, .unset, .unset, .unset, .unset, .unset, .unset, .unset, .unset, .unset, .unset, .unset, .unset, .unset, .unset, .unset, .unset, .unset, .unset, .unset, .unset] [(.int (25 : Int32)), (.int v3)])) _
      refine st106 _ ?_
      show Steps p.tables e below (T106.setTop (mkF m 39 #[.val (.long q0), .second, .val (.int p1), .val (.long q2), .second, .val (.long q3), .second, .val (.long q4), .second, .val (.long q5), .second, .val (.int (0 : Int32)), .val (.int v3), .unset, .unset, .unset, .unset, .unset, .unset, .unset, .unset, .unset, .unset, .unset, .unset, .unset, .unset, .unset, .unset, .unset, .unset, .unset, .unset, .unset, .unset, .unset, .unset, .unset, .unset] [(.int v5)])) _
      refine XS.istore X106.here hx rfl (hb hby at_39) rfl (l' := #[.val (.long q0), .second, .val (.int p1), .val (.long q2), .second, .val (.long q3), .second, .val (.long q4), .second, .val (.long q5), .second, .val (.int (0 : Int32)), .val (.int v3), .val (.int v5), .unset, .unset, .unset, .unset, .unset, .unset, .unset, .unset, .unset, .unset, .unset, .unset, .unset, .unset, .unset, .unset, .unset, .unset, .unset, .unset, .unset, .unset, .unset, .unset, .unset]) rfl ?_
      show Steps p.tables e below (T106.setTop (mkF m 41 #[.val (.long q0), .second, .val (.int p1), .val (.long q2), .second, .val (.long q3), .second, .val (.long q4), .second, .val (.long q5), .second, .val (.int (0 : Int32)), .val (.int v3), .val (.int v5), .unset, .unset, .unset, .unset, .unset, .unset, .unset, .unset, .unset, .unset, .unset, .unset, .unset, .unset, .unset, .unset, .unset, .unset, .unset, .unset, .unset, .unset, .unset, .unset, .unset] [])) _
      refine XS.lconst X106.here hx rfl (hb hby at_41) ?_
      refine XS.iload X106.here hx rfl (hb hby at_42) rfl ?_
      refine XS.lshl X106.here hx rfl (hb hby at_44) rfl ?_
      show Steps p.tables e below (T106.setTop (mkF m 45 #[.val (.long q0), .second, .val (.int p1), .val (.long q2), .second, .val (.long q3), .second, .val (.long q4), .second, .val (.long q5), .second, .val (.int (0 : Int32)), .val (.int v3), .val (.int v5), .unset, .unset, .unset, .unset, .unset, .unset, .unset, .unset, .unset, .unset, .unset, .unset, .unset, .unset, .unset, .unset, .unset, .unset, .unset, .unset, .unset, .unset, .unset, .unset, .unset] [(.long ((1 : Int64) <<< (v3 &&& 0x3f).toInt64))])) _
      refine XS.lconst X106.here hx rfl (hb hby at_45) ?_
      refine XS.lsub X106.here hx rfl (hb hby at_46) rfl ?_
      show Steps p.tables e below (T106.setTop (mkF m 47 #[.val (.long q0), .second, .val (.int p1), .val (.long q2), .second, .val (.long q3), .second, .val (.long q4), .second, .val (.long q5), .second, .val (.int (0 : Int32)), .val (.int v3), .val (.int v5), .unset, .unset, .unset, .unset, .unset, .unset, .unset, .unset, .unset, .unset, .unset, .unset, .unset, .unset, .unset, .unset, .unset, .unset, .unset, .unset, .unset, .unset, .unset, .unset, .unset] [(.long (((1 : Int64) <<< (v3 &&& 0x3f).toInt64) - (1 : Int64)))])) _
      rw [← hv6]
      show Steps p.tables e below (T106.setTop (mkF m 47 #[.val (.long q0), .second, .val (.int p1), .val (.long q2), .second, .val (.long q3), .second, .val (.long q4), .second, .val (.long q5), .second, .val (.int (0 : Int32)), .val (.int v3), .val (.int v5), .unset, .unset, .unset, .unset, .unset, .unset, .unset, .unset, .unset, .unset, .unset, .unset, .unset, .unset, .unset, .unset, .unset, .unset, .unset, .unset, .unset, .unset, .unset, .unset, .unset] [(.long v6)])) _
      refine XS.lstore X106.here hx rfl (hb hby at_47) rfl (l' := #[.val (.long q0), .second, .val (.int p1), .val (.long q2), .second, .val (.long q3), .second, .val (.long q4), .second, .val (.long q5), .second, .val (.int (0 : Int32)), .val (.int v3), .val (.int v5), .val (.long v6), .second, .unset, .unset, .unset, .unset, .unset, .unset, .unset, .unset, .unset, .unset, .unset, .unset, .unset, .unset, .unset, .unset, .unset, .unset, .unset, .unset, .unset, .unset, .unset]) rfl ?_
      show Steps p.tables e below (T106.setTop (mkF m 49 #[.val (.long q0), .second, .val (.int p1), .val (.long q2), .second, .val (.long q3), .second, .val (.long q4), .second, .val (.long q5), .second, .val (.int (0 : Int32)), .val (.int v3), .val (.int v5), .val (.long v6), .second, .unset, .unset, .unset, .unset, .unset, .unset, .unset, .unset, .unset, .unset, .unset, .unset, .unset, .unset, .unset, .unset, .unset, .unset, .unset, .unset, .unset, .unset, .unset] [])) _
      refine XS.lloadN X106.here hx rfl (hb hby at_49) rfl ?_
      refine XS.iload X106.here hx rfl (hb hby at_50) rfl ?_
      refine XS.i2l X106.here hx rfl (hb hby at_52) rfl ?_
      show Steps p.tables e below (T106.setTop (mkF m 53 #[.val (.long q0), .second, .val (.int p1), .val (.long q2), .second, .val (.long q3), .second, .val (.long q4), .second, .val (.long q5), .second, .val (.int (0 : Int32)), .val (.int v3), .val (.int v5), .val (.long v6), .second, .unset, .unset, .unset, .unset, .unset, .unset, .unset, .unset, .unset, .unset, .unset, .unset, .unset, .unset, .unset, .unset, .unset, .unset, .unset, .unset, .unset, .unset, .unset] [(.long (v5.toInt64)), (.long q2)])) _
      refine XS.land X106.here hx rfl (hb hby at_53) rfl ?_
      show Steps p.tables e below (T106.setTop (mkF m 54 #[.val (.long q0), .second, .val (.int p1), .val (.long q2), .second, .val (.long q3), .second, .val (.long q4), .second, .val (.long q5), .second, .val (.int (0 : Int32)), .val (.int v3), .val (.int v5), .val (.long v6), .second, .unset, .unset, .unset, .unset, .unset, .unset, .unset, .unset, .unset, .unset, .unset, .unset, .unset, .unset, .unset, .unset, .unset, .unset, .unset, .unset, .unset, .unset, .unset] [(.long (q2 &&& (v5.toInt64)))])) _
      refine XS.l2i X106.here hx rfl (hb hby at_54) rfl ?_
      show Steps p.tables e below (T106.setTop (mkF m 55 #[.val (.long q0), .second, .val (.int p1), .val (.long q2), .second, .val (.long q3), .second, .val (.long q4), .second, .val (.long q5), .second, .val (.int (0 : Int32)), .val (.int v3), .val (.int v5), .val (.long v6), .second, .unset, .unset, .unset, .unset, .unset, .unset, .unset, .unset, .unset, .unset, .unset, .unset, .unset, .unset, .unset, .unset, .unset, .unset, .unset, .unset, .unset, .unset, .unset] [(.int ((q2 &&& (v5.toInt64)).toInt32))])) _
      rw [← hv7]
      show Steps p.tables e below (T106.setTop (mkF m 55 #[.val (.long q0), .second, .val (.int p1), .val (.long q2), .second, .val (.long q3), .second, .val (.long q4), .second, .val (.long q5), .second, .val (.int (0 : Int32)), .val (.int v3), .val (.int v5), .val (.long v6), .second, .unset, .unset, .unset, .unset, .unset, .unset, .unset, .unset, .unset, .unset, .unset, .unset, .unset, .unset, .unset, .unset, .unset, .unset, .unset, .unset, .unset, .unset, .unset] [(.int v7)])) _
      refine XS.istore X106.here hx rfl (hb hby at_55) rfl (l' := #[.val (.long q0), .second, .val (.int p1), .val (.long q2), .second, .val (.long q3), .second, .val (.long q4), .second, .val (.long q5), .second, .val (.int (0 : Int32)), .val (.int v3), .val (.int v5), .val (.long v6), .second, .val (.int v7), .unset, .unset, .unset, .unset, .unset, .unset, .unset, .unset, .unset, .unset, .unset, .unset, .unset, .unset, .unset, .unset, .unset, .unset, .unset, .unset, .unset, .unset]) rfl ?_
      show Steps p.tables e below (T106.setTop (mkF m 57 #[.val (.long q0), .second, .val (.int p1), .val (.long q2), .second, .val (.long q3), .second, .val (.long q4), .second, .val (.long q5), .second, .val (.int (0 : Int32)), .val (.int v3), .val (.int v5), .val (.long v6), .second, .val (.int v7), .unset, .unset, .unset, .unset, .unset, .unset, .unset, .unset, .unset, .unset, .unset, .unset, .unset, .unset, .unset, .unset, .unset, .unset, .unset, .unset, .unset, .unset] [])) _
      refine XS.lloadN X106.here hx rfl (hb hby at_57) rfl ?_
      refine XS.bipush X106.here hx rfl (hb hby at_58) ?_
      refine XS.lushr X106.here hx rfl (hb hby at_60) rfl ?_
      show Steps p.tables e below (T106.setTop (mkF m 61 #[.val (.long q0), .second, .val (.int p1), .val (.long q2), .second, .val (.long q3), .second, .val (.long q4), .second, .val (.long q5), .second, .val (.int (0 : Int32)), .val (.int v3), .val (.int v5), .val (.long v6), .second, .val (.int v7), .unset, .unset, .unset, .unset, .unset, .unset, .unset, .unset, .unset, .unset, .unset, .unset, .unset, .unset, .unset, .unset, .unset, .unset, .unset, .unset, .unset, .unset] [(.long ((q2.toUInt64 >>> ((6 : Int32) &&& 0x3f).toInt64.toUInt64).toInt64))])) _
      refine XS.lload X106.here hx rfl (hb hby at_61) rfl ?_
      refine XS.land X106.here hx rfl (hb hby at_63) rfl ?_
      show Steps p.tables e below (T106.setTop (mkF m 64 #[.val (.long q0), .second, .val (.int p1), .val (.long q2), .second, .val (.long q3), .second, .val (.long q4), .second, .val (.long q5), .second, .val (.int (0 : Int32)), .val (.int v3), .val (.int v5), .val (.long v6), .second, .val (.int v7), .unset, .unset, .unset, .unset, .unset, .unset, .unset, .unset, .unset, .unset, .unset, .unset, .unset, .unset, .unset, .unset, .unset, .unset, .unset, .unset, .unset, .unset] [(.long (((q2.toUInt64 >>> ((6 : Int32) &&& 0x3f).toInt64.toUInt64).toInt64) &&& v6))])) _
      rw [← hv8]
      show Steps p.tables e below (T106.setTop (mkF m 64 #[.val (.long q0), .second, .val (.int p1), .val (.long q2), .second, .val (.long q3), .second, .val (.long q4), .second, .val (.long q5), .second, .val (.int (0 : Int32)), .val (.int v3), .val (.int v5), .val (.long v6), .second, .val (.int v7), .unset, .unset, .unset, .unset, .unset, .unset, .unset, .unset, .unset, .unset, .unset, .unset, .unset, .unset, .unset, .unset, .unset, .unset, .unset, .unset, .unset, .unset] [(.long v8)])) _
      refine XS.lstore X106.here hx rfl (hb hby at_64) rfl (l' := #[.val (.long q0), .second, .val (.int p1), .val (.long q2), .second, .val (.long q3), .second, .val (.long q4), .second, .val (.long q5), .second, .val (.int (0 : Int32)), .val (.int v3), .val (.int v5), .val (.long v6), .second, .val (.int v7), .val (.long v8), .second, .unset, .unset, .unset, .unset, .unset, .unset, .unset, .unset, .unset, .unset, .unset, .unset, .unset, .unset, .unset, .unset, .unset, .unset, .unset, .unset]) rfl ?_
      show Steps p.tables e below (T106.setTop (mkF m 66 #[.val (.long q0), .second, .val (.int p1), .val (.long q2), .second, .val (.long q3), .second, .val (.long q4), .second, .val (.long q5), .second, .val (.int (0 : Int32)), .val (.int v3), .val (.int v5), .val (.long v6), .second, .val (.int v7), .val (.long v8), .second, .unset, .unset, .unset, .unset, .unset, .unset, .unset, .unset, .unset, .unset, .unset, .unset, .unset, .unset, .unset, .unset, .unset, .unset, .unset, .unset] [])) _
      refine XS.lload X106.here hx rfl (hb hby at_66) rfl ?_
      refine XS.iload X106.here hx rfl (hb hby at_68) rfl ?_
      refine XS.i2l X106.here hx rfl (hb hby at_70) rfl ?_
      show Steps p.tables e below (T106.setTop (mkF m 71 #[.val (.long q0), .second, .val (.int p1), .val (.long q2), .second, .val (.long q3), .second, .val (.long q4), .second, .val (.long q5), .second, .val (.int (0 : Int32)), .val (.int v3), .val (.int v5), .val (.long v6), .second, .val (.int v7), .val (.long v8), .second, .unset, .unset, .unset, .unset, .unset, .unset, .unset, .unset, .unset, .unset, .unset, .unset, .unset, .unset, .unset, .unset, .unset, .unset, .unset, .unset] [(.long (v5.toInt64)), (.long q3)])) _
      refine XS.land X106.here hx rfl (hb hby at_71) rfl ?_
      show Steps p.tables e below (T106.setTop (mkF m 72 #[.val (.long q0), .second, .val (.int p1), .val (.long q2), .second, .val (.long q3), .second, .val (.long q4), .second, .val (.long q5), .second, .val (.int (0 : Int32)), .val (.int v3), .val (.int v5), .val (.long v6), .second, .val (.int v7), .val (.long v8), .second, .unset, .unset, .unset, .unset, .unset, .unset, .unset, .unset, .unset, .unset, .unset, .unset, .unset, .unset, .unset, .unset, .unset, .unset, .unset, .unset] [(.long (q3 &&& (v5.toInt64)))])) _
      refine XS.l2i X106.here hx rfl (hb hby at_72) rfl ?_
      show Steps p.tables e below (T106.setTop (mkF m 73 #[.val (.long q0), .second, .val (.int p1), .val (.long q2), .second, .val (.long q3), .second, .val (.long q4), .second, .val (.long q5), .second, .val (.int (0 : Int32)), .val (.int v3), .val (.int v5), .val (.long v6), .second, .val (.int v7), .val (.long v8), .second, .unset, .unset, .unset, .unset, .unset, .unset, .unset, .unset, .unset, .unset, .unset, .unset, .unset, .unset, .unset, .unset, .unset, .unset, .unset, .unset] [(.int ((q3 &&& (v5.toInt64)).toInt32))])) _
      rw [← hv9]
      show Steps p.tables e below (T106.setTop (mkF m 73 #[.val (.long q0), .second, .val (.int p1), .val (.long q2), .second, .val (.long q3), .second, .val (.long q4), .second, .val (.long q5), .second, .val (.int (0 : Int32)), .val (.int v3), .val (.int v5), .val (.long v6), .second, .val (.int v7), .val (.long v8), .second, .unset, .unset, .unset, .unset, .unset, .unset, .unset, .unset, .unset, .unset, .unset, .unset, .unset, .unset, .unset, .unset, .unset, .unset, .unset, .unset] [(.int v9)])) _
      refine XS.istore X106.here hx rfl (hb hby at_73) rfl (l' := #[.val (.long q0), .second, .val (.int p1), .val (.long q2), .second, .val (.long q3), .second, .val (.long q4), .second, .val (.long q5), .second, .val (.int (0 : Int32)), .val (.int v3), .val (.int v5), .val (.long v6), .second, .val (.int v7), .val (.long v8), .second, .val (.int v9), .unset, .unset, .unset, .unset, .unset, .unset, .unset, .unset, .unset, .unset, .unset, .unset, .unset, .unset, .unset, .unset, .unset, .unset, .unset]) rfl ?_
      show Steps p.tables e below (T106.setTop (mkF m 75 #[.val (.long q0), .second, .val (.int p1), .val (.long q2), .second, .val (.long q3), .second, .val (.long q4), .second, .val (.long q5), .second, .val (.int (0 : Int32)), .val (.int v3), .val (.int v5), .val (.long v6), .second, .val (.int v7), .val (.long v8), .second, .val (.int v9), .unset, .unset, .unset, .unset, .unset, .unset, .unset, .unset, .unset, .unset, .unset, .unset, .unset, .unset, .unset, .unset, .unset, .unset, .unset] [])) _
      refine XS.lload X106.here hx rfl (hb hby at_75) rfl ?_
      refine XS.bipush X106.here hx rfl (hb hby at_77) ?_
      refine XS.lushr X106.here hx rfl (hb hby at_79) rfl ?_
      show Steps p.tables e below (T106.setTop (mkF m 80 #[.val (.long q0), .second, .val (.int p1), .val (.long q2), .second, .val (.long q3), .second, .val (.long q4), .second, .val (.long q5), .second, .val (.int (0 : Int32)), .val (.int v3), .val (.int v5), .val (.long v6), .second, .val (.int v7), .val (.long v8), .second, .val (.int v9), .unset, .unset, .unset, .unset, .unset, .unset, .unset, .unset, .unset, .unset, .unset, .unset, .unset, .unset, .unset, .unset, .unset, .unset, .unset] [(.long ((q3.toUInt64 >>> ((6 : Int32) &&& 0x3f).toInt64.toUInt64).toInt64))])) _
      refine XS.lload X106.here hx rfl (hb hby at_80) rfl ?_
      refine XS.land X106.here hx rfl (hb hby at_82) rfl ?_
      show Steps p.tables e below (T106.setTop (mkF m 83 #[.val (.long q0), .second, .val (.int p1), .val (.long q2), .second, .val (.long q3), .second, .val (.long q4), .second, .val (.long q5), .second, .val (.int (0 : Int32)), .val (.int v3), .val (.int v5), .val (.long v6), .second, .val (.int v7), .val (.long v8), .second, .val (.int v9), .unset, .unset, .unset, .unset, .unset, .unset, .unset, .unset, .unset, .unset, .unset, .unset, .unset, .unset, .unset, .unset, .unset, .unset, .unset] [(.long (((q3.toUInt64 >>> ((6 : Int32) &&& 0x3f).toInt64.toUInt64).toInt64) &&& v6))])) _
      rw [← hv10]
      show Steps p.tables e below (T106.setTop (mkF m 83 #[.val (.long q0), .second, .val (.int p1), .val (.long q2), .second, .val (.long q3), .second, .val (.long q4), .second, .val (.long q5), .second, .val (.int (0 : Int32)), .val (.int v3), .val (.int v5), .val (.long v6), .second, .val (.int v7), .val (.long v8), .second, .val (.int v9), .unset, .unset, .unset, .unset, .unset, .unset, .unset, .unset, .unset, .unset, .unset, .unset, .unset, .unset, .unset, .unset, .unset, .unset, .unset] [(.long v10)])) _
      refine XS.lstore X106.here hx rfl (hb hby at_83) rfl (l' := #[.val (.long q0), .second, .val (.int p1), .val (.long q2), .second, .val (.long q3), .second, .val (.long q4), .second, .val (.long q5), .second, .val (.int (0 : Int32)), .val (.int v3), .val (.int v5), .val (.long v6), .second, .val (.int v7), .val (.long v8), .second, .val (.int v9), .val (.long v10), .second, .unset, .unset, .unset, .unset, .unset, .unset, .unset, .unset, .unset, .unset, .unset, .unset, .unset, .unset, .unset, .unset, .unset]) rfl ?_
      show Steps p.tables e below (T106.setTop (mkF m 85 #[.val (.long q0), .second, .val (.int p1), .val (.long q2), .second, .val (.long q3), .second, .val (.long q4), .second, .val (.long q5), .second, .val (.int (0 : Int32)), .val (.int v3), .val (.int v5), .val (.long v6), .second, .val (.int v7), .val (.long v8), .second, .val (.int v9), .val (.long v10), .second, .unset, .unset, .unset, .unset, .unset, .unset, .unset, .unset, .unset, .unset, .unset, .unset, .unset, .unset, .unset, .unset, .unset] [])) _
      refine XS.iload X106.here hx rfl (hb hby at_85) rfl ?_
      refine XS.iconst X106.here hx rfl (hb hby at_87) ?_
      refine XS.icmpYes X106.here hx rfl (pc0 := 88) (pc' := 103) rfl (hb hby at_88) rfl (tlt (by decide : (0 : Int32) < (1 : Int32))).1 (by decide) (by decide) ?_
      show Steps p.tables e below (T106.setTop (mkF m 103 #[.val (.long q0), .second, .val (.int p1), .val (.long q2), .second, .val (.long q3), .second, .val (.long q4), .second, .val (.long q5), .second, .val (.int (0 : Int32)), .val (.int v3), .val (.int v5), .val (.long v6), .second, .val (.int v7), .val (.long v8), .second, .val (.int v9), .val (.long v10), .second, .unset, .unset, .unset, .unset, .unset, .unset, .unset, .unset, .unset, .unset, .unset, .unset, .unset, .unset, .unset, .unset, .unset] [])) _
      refine XS.lconst X106.here hx rfl (hb hby at_103) ?_
      refine XS.lstore X106.here hx rfl (hb hby at_104) rfl (l' := #[.val (.long q0), .second, .val (.int p1), .val (.long q2), .second, .val (.long q3), .second, .val (.long q4), .second, .val (.long q5), .second, .val (.int (0 : Int32)), .val (.int v3), .val (.int v5), .val (.long v6), .second, .val (.int v7), .val (.long v8), .second, .val (.int v9), .val (.long v10), .second, .val (.long (0 : Int64)), .second, .unset, .unset, .unset, .unset, .unset, .unset, .unset, .unset, .unset, .unset, .unset, .unset, .unset, .unset, .unset]) rfl ?_
      show Steps p.tables e below (T106.setTop (mkF m 106 #[.val (.long q0), .second, .val (.int p1), .val (.long q2), .second, .val (.long q3), .second, .val (.long q4), .second, .val (.long q5), .second, .val (.int (0 : Int32)), .val (.int v3), .val (.int v5), .val (.long v6), .second, .val (.int v7), .val (.long v8), .second, .val (.int v9), .val (.long v10), .second, .val (.long (0 : Int64)), .second, .unset, .unset, .unset, .unset, .unset, .unset, .unset, .unset, .unset, .unset, .unset, .unset, .unset, .unset, .unset] [])) _
      refine XS.iload X106.here hx rfl (hb hby at_106) rfl ?_
      refine XS.iconst X106.here hx rfl (hb hby at_108) ?_
      refine XS.icmpYes X106.here hx rfl (pc0 := 109) (pc' := 124) rfl (hb hby at_109) rfl (feq (by decide : ¬ ((0 : Int32) = (2 : Int32)))).2 (by decide) (by decide) ?_
      show Steps p.tables e below (T106.setTop (mkF m 124 #[.val (.long q0), .second, .val (.int p1), .val (.long q2), .second, .val (.long q3), .second, .val (.long q4), .second, .val (.long q5), .second, .val (.int (0 : Int32)), .val (.int v3), .val (.int v5), .val (.long v6), .second, .val (.int v7), .val (.long v8), .second, .val (.int v9), .val (.long v10), .second, .val (.long (0 : Int64)), .second, .unset, .unset, .unset, .unset, .unset, .unset, .unset, .unset, .unset, .unset, .unset, .unset, .unset, .unset, .unset] [])) _
      refine XS.lconst X106.here hx rfl (hb hby at_124) ?_
      refine XS.lstore X106.here hx rfl (hb hby at_125) rfl (l' := #[.val (.long q0), .second, .val (.int p1), .val (.long q2), .second, .val (.long q3), .second, .val (.long q4), .second, .val (.long q5), .second, .val (.int (0 : Int32)), .val (.int v3), .val (.int v5), .val (.long v6), .second, .val (.int v7), .val (.long v8), .second, .val (.int v9), .val (.long v10), .second, .val (.long (0 : Int64)), .second, .val (.long (0 : Int64)), .second, .unset, .unset, .unset, .unset, .unset, .unset, .unset, .unset, .unset, .unset, .unset, .unset, .unset]) rfl ?_
      show Steps p.tables e below (T106.setTop (mkF m 127 #[.val (.long q0), .second, .val (.int p1), .val (.long q2), .second, .val (.long q3), .second, .val (.long q4), .second, .val (.long q5), .second, .val (.int (0 : Int32)), .val (.int v3), .val (.int v5), .val (.long v6), .second, .val (.int v7), .val (.long v8), .second, .val (.int v9), .val (.long v10), .second, .val (.long (0 : Int64)), .second, .val (.long (0 : Int64)), .second, .unset, .unset, .unset, .unset, .unset, .unset, .unset, .unset, .unset, .unset, .unset, .unset, .unset] [])) _
      refine XS.lloadN X106.here hx rfl (hb hby at_127) rfl ?_
      show Steps p.tables e below (T106.setTop (mkF m 128 #[.val (.long q0), .second, .val (.int p1), .val (.long q2), .second, .val (.long q3), .second, .val (.long q4), .second, .val (.long q5), .second, .val (.int (0 : Int32)), .val (.int v3), .val (.int v5), .val (.long v6), .second, .val (.int v7), .val (.long v8), .second, .val (.int v9), .val (.long v10), .second, .val (.long (0 : Int64)), .second, .val (.long (0 : Int64)), .second, .unset, .unset, .unset, .unset, .unset, .unset, .unset, .unset, .unset, .unset, .unset, .unset, .unset] [(.long q0)])) _
      refine X106.ldc2Long hx hown (mvT hZ (hw _ (List.mem_of_getElem? (i := 1) rfl))) (g := (mkF m 128 #[.val (.long q0), .second, .val (.int p1), .val (.long q2), .second, .val (.long q3), .second, .val (.long q4), .second, .val (.long q5), .second, .val (.int (0 : Int32)), .val (.int v3), .val (.int v5), .val (.long v6), .second, .val (.int v7), .val (.long v8), .second, .val (.int v9), .val (.long v10), .second, .val (.long (0 : Int64)), .second, .val (.long (0 : Int64)), .second, .unset, .unset, .unset, .unset, .unset, .unset, .unset, .unset, .unset, .unset, .unset, .unset, .unset] [(.long q0)])) rfl (hb hby at_128) _ ?_
      show Steps p.tables e below (T106.setTop (mkF m 131 #[.val (.long q0), .second, .val (.int p1), .val (.long q2), .second, .val (.long q3), .second, .val (.long q4), .second, .val (.long q5), .second, .val (.int (0 : Int32)), .val (.int v3), .val (.int v5), .val (.long v6), .second, .val (.int v7), .val (.long v8), .second, .val (.int v9), .val (.long v10), .second, .val (.long (0 : Int64)), .second, .val (.long (0 : Int64)), .second, .unset, .unset, .unset, .unset, .unset, .unset, .unset, .unset, .unset, .unset, .unset, .unset, .unset] [(.long (4294967295 : Int64)), (.long q0)])) _
      refine XS.land X106.here hx rfl (hb hby at_131) rfl ?_
      show Steps p.tables e below (T106.setTop (mkF m 132 #[.val (.long q0), .second, .val (.int p1), .val (.long q2), .second, .val (.long q3), .second, .val (.long q4), .second, .val (.long q5), .second, .val (.int (0 : Int32)), .val (.int v3), .val (.int v5), .val (.long v6), .second, .val (.int v7), .val (.long v8), .second, .val (.int v9), .val (.long v10), .second, .val (.long (0 : Int64)), .second, .val (.long (0 : Int64)), .second, .unset, .unset, .unset, .unset, .unset, .unset, .unset, .unset, .unset, .unset, .unset, .unset, .unset] [(.long (q0 &&& (4294967295 : Int64)))])) _
      refine X106.ldc2Long hx hown (mvT hZ (hw _ (List.mem_of_getElem? (i := 2) rfl))) (g := (mkF m 132 #[.val (.long q0), .second, .val (.int p1), .val (.long q2), .second, .val (.long q3), .second, .val (.long q4), .second, .val (.long q5), .second, .val (.int (0 : Int32)), .val (.int v3), .val (.int v5), .val (.long v6), .second, .val (.int v7), .val (.long v8), .second, .val (.int v9), .val (.long v10), .second, .val (.long (0 : Int64)), .second, .val (.long (0 : Int64)), .second, .unset, .unset, .unset, .unset, .unset, .unset, .unset, .unset, .unset, .unset, .unset, .unset, .unset] [(.long (q0 &&& (4294967295 : Int64)))])) rfl (hb hby at_132) _ ?_
      show Steps p.tables e below (T106.setTop (mkF m 135 #[.val (.long q0), .second, .val (.int p1), .val (.long q2), .second, .val (.long q3), .second, .val (.long q4), .second, .val (.long q5), .second, .val (.int (0 : Int32)), .val (.int v3), .val (.int v5), .val (.long v6), .second, .val (.int v7), .val (.long v8), .second, .val (.int v9), .val (.long v10), .second, .val (.long (0 : Int64)), .second, .val (.long (0 : Int64)), .second, .unset, .unset, .unset, .unset, .unset, .unset, .unset, .unset, .unset, .unset, .unset, .unset, .unset] [(.long (4294967296 : Int64)), (.long (q0 &&& (4294967295 : Int64)))])) _
      refine XS.lload X106.here hx rfl (hb hby at_135) rfl ?_
      refine XS.lsub X106.here hx rfl (hb hby at_137) rfl ?_
      show Steps p.tables e below (T106.setTop (mkF m 138 #[.val (.long q0), .second, .val (.int p1), .val (.long q2), .second, .val (.long q3), .second, .val (.long q4), .second, .val (.long q5), .second, .val (.int (0 : Int32)), .val (.int v3), .val (.int v5), .val (.long v6), .second, .val (.int v7), .val (.long v8), .second, .val (.int v9), .val (.long v10), .second, .val (.long (0 : Int64)), .second, .val (.long (0 : Int64)), .second, .unset, .unset, .unset, .unset, .unset, .unset, .unset, .unset, .unset, .unset, .unset, .unset, .unset] [(.long (4294967296 : Int64)), (.long (q0 &&& (4294967295 : Int64)))])) _
      refine XS.lload X106.here hx rfl (hb hby at_138) rfl ?_
      refine XS.lsub X106.here hx rfl (hb hby at_140) rfl ?_
      show Steps p.tables e below (T106.setTop (mkF m 141 #[.val (.long q0), .second, .val (.int p1), .val (.long q2), .second, .val (.long q3), .second, .val (.long q4), .second, .val (.long q5), .second, .val (.int (0 : Int32)), .val (.int v3), .val (.int v5), .val (.long v6), .second, .val (.int v7), .val (.long v8), .second, .val (.int v9), .val (.long v10), .second, .val (.long (0 : Int64)), .second, .val (.long (0 : Int64)), .second, .unset, .unset, .unset, .unset, .unset, .unset, .unset, .unset, .unset, .unset, .unset, .unset, .unset] [(.long (4294967296 : Int64)), (.long (q0 &&& (4294967295 : Int64)))])) _
      refine XS.lrem X106.here hx rfl (hb hby at_141) rfl hnz141_107 ?_
      rw [own_remJ (q0 &&& (4294967295 : Int64)) (4294967296 : Int64)]
      show Steps p.tables e below (T106.setTop (mkF m 142 #[.val (.long q0), .second, .val (.int p1), .val (.long q2), .second, .val (.long q3), .second, .val (.long q4), .second, .val (.long q5), .second, .val (.int (0 : Int32)), .val (.int v3), .val (.int v5), .val (.long v6), .second, .val (.int v7), .val (.long v8), .second, .val (.int v9), .val (.long v10), .second, .val (.long (0 : Int64)), .second, .val (.long (0 : Int64)), .second, .unset, .unset, .unset, .unset, .unset, .unset, .unset, .unset, .unset, .unset, .unset, .unset, .unset] [(.long ((q0 &&& (4294967295 : Int64)) % (4294967296 : Int64)))])) _
      rw [← hv11]
      show Steps p.tables e below (T106.setTop (mkF m 142 #[.val (.long q0), .second, .val (.int p1), .val (.long q2), .second, .val (.long q3), .second, .val (.long q4), .second, .val (.long q5), .second, .val (.int (0 : Int32)), .val (.int v3), .val (.int v5), .val (.long v6), .second, .val (.int v7), .val (.long v8), .second, .val (.int v9), .val (.long v10), .second, .val (.long (0 : Int64)), .second, .val (.long (0 : Int64)), .second, .unset, .unset, .unset, .unset, .unset, .unset, .unset, .unset, .unset, .unset, .unset, .unset, .unset] [(.long v11)])) _
      refine XS.lstore X106.here hx rfl (hb hby at_142) rfl (l' := #[.val (.long q0), .second, .val (.int p1), .val (.long q2), .second, .val (.long q3), .second, .val (.long q4), .second, .val (.long q5), .second, .val (.int (0 : Int32)), .val (.int v3), .val (.int v5), .val (.long v6), .second, .val (.int v7), .val (.long v8), .second, .val (.int v9), .val (.long v10), .second, .val (.long (0 : Int64)), .second, .val (.long (0 : Int64)), .second, .val (.long v11), .second, .unset, .unset, .unset, .unset, .unset, .unset, .unset, .unset, .unset, .unset, .unset]) rfl ?_
      show Steps p.tables e below (T106.setTop (mkF m 144 #[.val (.long q0), .second, .val (.int p1), .val (.long q2), .second, .val (.long q3), .second, .val (.long q4), .second, .val (.long q5), .second, .val (.int (0 : Int32)), .val (.int v3), .val (.int v5), .val (.long v6), .second, .val (.int v7), .val (.long v8), .second, .val (.int v9), .val (.long v10), .second, .val (.long (0 : Int64)), .second, .val (.long (0 : Int64)), .second, .val (.long v11), .second, .unset, .unset, .unset, .unset, .unset, .unset, .unset, .unset, .unset, .unset, .unset] [])) _
      refine XS.lload X106.here hx rfl (hb hby at_144) rfl ?_
      refine XS.lload X106.here hx rfl (hb hby at_146) rfl ?_
      refine XS.ladd X106.here hx rfl (hb hby at_148) rfl ?_
      show Steps p.tables e below (T106.setTop (mkF m 149 #[.val (.long q0), .second, .val (.int p1), .val (.long q2), .second, .val (.long q3), .second, .val (.long q4), .second, .val (.long q5), .second, .val (.int (0 : Int32)), .val (.int v3), .val (.int v5), .val (.long v6), .second, .val (.int v7), .val (.long v8), .second, .val (.int v9), .val (.long v10), .second, .val (.long (0 : Int64)), .second, .val (.long (0 : Int64)), .second, .val (.long v11), .second, .unset, .unset, .unset, .unset, .unset, .unset, .unset, .unset, .unset, .unset, .unset] [(.long (v11 + (0 : Int64)))])) _
      rw [← hv12]
      show Steps p.tables e below (T106.setTop (mkF m 149 #[.val (.long q0), .second, .val (.int p1), .val (.long q2), .second, .val (.long q3), .second, .val (.long q4), .second, .val (.long q5), .second, .val (.int (0 : Int32)), .val (.int v3), .val (.int v5), .val (.long v6), .second, .val (.int v7), .val (.long v8), .second, .val (.int v9), .val (.long v10), .second, .val (.long (0 : Int64)), .second, .val (.long (0 : Int64)), .second, .val (.long v11), .second, .unset, .unset, .unset, .unset, .unset, .unset, .unset, .unset, .unset, .unset, .unset] [(.long v12)])) _
      refine XS.lstore X106.here hx rfl (hb hby at_149) rfl (l' := #[.val (.long q0), .second, .val (.int p1), .val (.long q2), .second, .val (.long q3), .second, .val (.long q4), .second, .val (.long q5), .second, .val (.int (0 : Int32)), .val (.int v3), .val (.int v5), .val (.long v6), .second, .val (.int v7), .val (.long v8), .second, .val (.int v9), .val (.long v10), .second, .val (.long (0 : Int64)), .second, .val (.long (0 : Int64)), .second, .val (.long v11), .second, .val (.long v12), .second, .unset, .unset, .unset, .unset, .unset, .unset, .unset, .unset, .unset]) rfl ?_
      show Steps p.tables e below (T106.setTop (mkF m 151 #[.val (.long q0), .second, .val (.int p1), .val (.long q2), .second, .val (.long q3), .second, .val (.long q4), .second, .val (.long q5), .second, .val (.int (0 : Int32)), .val (.int v3), .val (.int v5), .val (.long v6), .second, .val (.int v7), .val (.long v8), .second, .val (.int v9), .val (.long v10), .second, .val (.long (0 : Int64)), .second, .val (.long (0 : Int64)), .second, .val (.long v11), .second, .val (.long v12), .second, .unset, .unset, .unset, .unset, .unset, .unset, .unset, .unset, .unset] [])) _
      refine XS.lload X106.here hx rfl (hb hby at_151) rfl ?_
      refine XS.lload X106.here hx rfl (hb hby at_153) rfl ?_
      refine XS.ladd X106.here hx rfl (hb hby at_155) rfl ?_
      show Steps p.tables e below (T106.setTop (mkF m 156 #[.val (.long q0), .second, .val (.int p1), .val (.long q2), .second, .val (.long q3), .second, .val (.long q4), .second, .val (.long q5), .second, .val (.int (0 : Int32)), .val (.int v3), .val (.int v5), .val (.long v6), .second, .val (.int v7), .val (.long v8), .second, .val (.int v9), .val (.long v10), .second, .val (.long (0 : Int64)), .second, .val (.long (0 : Int64)), .second, .val (.long v11), .second, .val (.long v12), .second, .unset, .unset, .unset, .unset, .unset, .unset, .unset, .unset, .unset] [(.long (v12 + (0 : Int64)))])) _
      rw [← hv13]
      show Steps p.tables e below (T106.setTop (mkF m 156 #[.val (.long q0), .second, .val (.int p1), .val (.long q2), .second, .val (.long q3), .second, .val (.long q4), .second, .val (.long q5), .second, .val (.int (0 : Int32)), .val (.int v3), .val (.int v5), .val (.long v6), .second, .val (.int v7), .val (.long v8), .second, .val (.int v9), .val (.long v10), .second, .val (.long (0 : Int64)), .second, .val (.long (0 : Int64)), .second, .val (.long v11), .second, .val (.long v12), .second, .unset, .unset, .unset, .unset, .unset, .unset, .unset, .unset, .unset] [(.long v13)])) _
      refine XS.lstore X106.here hx rfl (hb hby at_156) rfl (l' := #[.val (.long q0), .second, .val (.int p1), .val (.long q2), .second, .val (.long q3), .second, .val (.long q4), .second, .val (.long q5), .second, .val (.int (0 : Int32)), .val (.int v3), .val (.int v5), .val (.long v6), .second, .val (.int v7), .val (.long v8), .second, .val (.int v9), .val (.long v10), .second, .val (.long (0 : Int64)), .second, .val (.long (0 : Int64)), .second, .val (.long v11), .second, .val (.long v12), .second, .val (.long v13), .second, .unset, .unset, .unset, .unset, .unset, .unset, .unset]) rfl ?_
      show Steps p.tables e below (T106.setTop (mkF m 158 #[.val (.long q0), .second, .val (.int p1), .val (.long q2), .second, .val (.long q3), .second, .val (.long q4), .second, .val (.long q5), .second, .val (.int (0 : Int32)), .val (.int v3), .val (.int v5), .val (.long v6), .second, .val (.int v7), .val (.long v8), .second, .val (.int v9), .val (.long v10), .second, .val (.long (0 : Int64)), .second, .val (.long (0 : Int64)), .second, .val (.long v11), .second, .val (.long v12), .second, .val (.long v13), .second, .unset, .unset, .unset, .unset, .unset, .unset, .unset] [])) _
      refine XS.lload X106.here hx rfl (hb hby at_158) rfl ?_
      refine XS.lload X106.here hx rfl (hb hby at_160) rfl ?_
      show Steps p.tables e below (T106.setTop (mkF m 162 #[.val (.long q0), .second, .val (.int p1), .val (.long q2), .second, .val (.long q3), .second, .val (.long q4), .second, .val (.long q5), .second, .val (.int (0 : Int32)), .val (.int v3), .val (.int v5), .val (.long v6), .second, .val (.int v7), .val (.long v8), .second, .val (.int v9), .val (.long v10), .second, .val (.long (0 : Int64)), .second, .val (.long (0 : Int64)), .second, .val (.long v11), .second, .val (.long v12), .second, .val (.long v13), .second, .unset, .unset, .unset, .unset, .unset, .unset, .unset] [(.long q4), (.long v13)])) _
      refine X106.ldc2Long hx hown (mvT hZ (hw _ (List.mem_of_getElem? (i := 1) rfl))) (g := (mkF m 162 #[.val (.long q0), .second, .val (.int p1), .val (.long q2), .second, .val (.long q3), .second, .val (.long q4), .second, .val (.long q5), .second, .val (.int (0 : Int32)), .val (.int v3), .val (.int v5), .val (.long v6), .second, .val (.int v7), .val (.long v8), .second, .val (.int v9), .val (.long v10), .second, .val (.long (0 : Int64)), .second, .val (.long (0 : Int64)), .second, .val (.long v11), .second, .val (.long v12), .second, .val (.long v13), .second, .unset, .unset, .unset, .unset, .unset, .unset, .unset] [(.long q4), (.long v13)])) rfl (hb hby at_162) _ ?_
      show Steps p.tables e below (T106.setTop (mkF m 165 #[.val (.long q0), .second, .val (.int p1), .val (.long q2), .second, .val (.long q3), .second, .val (.long q4), .second, .val (.long q5), .second, .val (.int (0 : Int32)), .val (.int v3), .val (.int v5), .val (.long v6), .second, .val (.int v7), .val (.long v8), .second, .val (.int v9), .val (.long v10), .second, .val (.long (0 : Int64)), .second, .val (.long (0 : Int64)), .second, .val (.long v11), .second, .val (.long v12), .second, .val (.long v13), .second, .unset, .unset, .unset, .unset, .unset, .unset, .unset] [(.long (4294967295 : Int64)), (.long q4), (.long v13)])) _
      refine XS.land X106.here hx rfl (hb hby at_165) rfl ?_
      show Steps p.tables e below (T106.setTop (mkF m 166 #[.val (.long q0), .second, .val (.int p1), .val (.long q2), .second, .val (.long q3), .second, .val (.long q4), .second, .val (.long q5), .second, .val (.int (0 : Int32)), .val (.int v3), .val (.int v5), .val (.long v6), .second, .val (.int v7), .val (.long v8), .second, .val (.int v9), .val (.long v10), .second, .val (.long (0 : Int64)), .second, .val (.long (0 : Int64)), .second, .val (.long v11), .second, .val (.long v12), .second, .val (.long v13), .second, .unset, .unset, .unset, .unset, .unset, .unset, .unset] [(.long (q4 &&& (4294967295 : Int64))), (.long v13)])) _
      rw [← hv14]
      show Steps p.tables e below (T106.setTop (mkF m 166 #[.val (.long q0), .second, .val (.int p1), .val (.long q2), .second, .val (.long q3), .second, .val (.long q4), .second, .val (.long q5), .second, .val (.int (0 : Int32)), .val (.int v3), .val (.int v5), .val (.long v6), .second, .val (.int v7), .val (.long v8), .second, .val (.int v9), .val (.long v10), .second, .val (.long (0 : Int64)), .second, .val (.long (0 : Int64)), .second, .val (.long v11), .second, .val (.long v12), .second, .val (.long v13), .second, .unset, .unset, .unset, .unset, .unset, .unset, .unset] [(.long v14), (.long v13)])) _
      refine st108 _ ?_
      show Steps p.tables e below (T108.setTop (mkF m 169 #[.val (.long q0), .second, .val (.int p1), .val (.long q2), .second, .val (.long q3), .second, .val (.long q4), .second, .val (.long q5), .second, .val (.int (0 : Int32)), .val (.int v3), .val (.int v5), .val (.long v6), .second, .val (.int v7), .val (.long v8), .second, .val (.int v9), .val (.long v10), .second, .val (.long (0 : Int64)), .second, .val (.long (0 : Int64)), .second, .val (.long v11), .second, .val (.long v12), .second, .val (.long v13), .second, .unset, .unset, .unset, .unset, .unset, .unset, .unset] [(.long (own_rmx v13 v14))])) _
      rw [← hv15]
      show Steps p.tables e below (T108.setTop (mkF m 169 #[.val (.long q0), .second, .val (.int p1), .val (.long q2), .second, .val (.long q3), .second, .val (.long q4), .second, .val (.long q5), .second, .val (.int (0 : Int32)), .val (.int v3), .val (.int v5), .val (.long v6), .second, .val (.int v7), .val (.long v8), .second, .val (.int v9), .val (.long v10), .second, .val (.long (0 : Int64)), .second, .val (.long (0 : Int64)), .second, .val (.long v11), .second, .val (.long v12), .second, .val (.long v13), .second, .unset, .unset, .unset, .unset, .unset, .unset, .unset] [(.long v15)])) _
      refine XS.lstore X108.here hx rfl (hb hby at_169) rfl (l' := #[.val (.long q0), .second, .val (.int p1), .val (.long q2), .second, .val (.long q3), .second, .val (.long q4), .second, .val (.long q5), .second, .val (.int (0 : Int32)), .val (.int v3), .val (.int v5), .val (.long v6), .second, .val (.int v7), .val (.long v8), .second, .val (.int v9), .val (.long v10), .second, .val (.long (0 : Int64)), .second, .val (.long (0 : Int64)), .second, .val (.long v11), .second, .val (.long v12), .second, .val (.long v13), .second, .val (.long v15), .second, .unset, .unset, .unset, .unset, .unset]) rfl ?_
      show Steps p.tables e below (T108.setTop (mkF m 171 #[.val (.long q0), .second, .val (.int p1), .val (.long q2), .second, .val (.long q3), .second, .val (.long q4), .second, .val (.long q5), .second, .val (.int (0 : Int32)), .val (.int v3), .val (.int v5), .val (.long v6), .second, .val (.int v7), .val (.long v8), .second, .val (.int v9), .val (.long v10), .second, .val (.long (0 : Int64)), .second, .val (.long (0 : Int64)), .second, .val (.long v11), .second, .val (.long v12), .second, .val (.long v13), .second, .val (.long v15), .second, .unset, .unset, .unset, .unset, .unset] [])) _
      refine XS.iload X108.here hx rfl (hb hby at_171) rfl ?_
      refine XS.ifNo X108.here hx rfl (hb hby at_173) rfl ((if0 _ _).trans (teq (by decide : (0 : Int32) = (0 : Int32))).2) ?_
      show Steps p.tables e below (T108.setTop (mkF m 176 #[.val (.long q0), .second, .val (.int p1), .val (.long q2), .second, .val (.long q3), .second, .val (.long q4), .second, .val (.long q5), .second, .val (.int (0 : Int32)), .val (.int v3), .val (.int v5), .val (.long v6), .second, .val (.int v7), .val (.long v8), .second, .val (.int v9), .val (.long v10), .second, .val (.long (0 : Int64)), .second, .val (.long (0 : Int64)), .second, .val (.long v11), .second, .val (.long v12), .second, .val (.long v13), .second, .val (.long v15), .second, .unset, .unset, .unset, .unset, .unset] [])) _
      refine XS.lload X108.here hx rfl (hb hby at_176) rfl ?_
      refine XS.l2i X108.here hx rfl (hb hby at_178) rfl ?_
      show Steps p.tables e below (T108.setTop (mkF m 179 #[.val (.long q0), .second, .val (.int p1), .val (.long q2), .second, .val (.long q3), .second, .val (.long q4), .second, .val (.long q5), .second, .val (.int (0 : Int32)), .val (.int v3), .val (.int v5), .val (.long v6), .second, .val (.int v7), .val (.long v8), .second, .val (.int v9), .val (.long v10), .second, .val (.long (0 : Int64)), .second, .val (.long (0 : Int64)), .second, .val (.long v11), .second, .val (.long v12), .second, .val (.long v13), .second, .val (.long v15), .second, .unset, .unset, .unset, .unset, .unset] [(.int (q3.toInt32))])) _
      refine XS.goto X108.here hx rfl (pc0 := 179) (pc' := 184) rfl (hb hby at_179) (by decide) (by decide) ?_
      show Steps p.tables e below (T108.setTop (mkF m 184 #[.val (.long q0), .second, .val (.int p1), .val (.long q2), .second, .val (.long q3), .second, .val (.long q4), .second, .val (.long q5), .second, .val (.int (0 : Int32)), .val (.int v3), .val (.int v5), .val (.long v6), .second, .val (.int v7), .val (.long v8), .second, .val (.int v9), .val (.long v10), .second, .val (.long (0 : Int64)), .second, .val (.long (0 : Int64)), .second, .val (.long v11), .second, .val (.long v12), .second, .val (.long v13), .second, .val (.long v15), .second, .unset, .unset, .unset, .unset, .unset] [(.int (q3.toInt32))])) _
      rw [← hv16]
      show Steps p.tables e below (T108.setTop (mkF m 184 #[.val (.long q0), .second, .val (.int p1), .val (.long q2), .second, .val (.long q3), .second, .val (.long q4), .second, .val (.long q5), .second, .val (.int (0 : Int32)), .val (.int v3), .val (.int v5), .val (.long v6), .second, .val (.int v7), .val (.long v8), .second, .val (.int v9), .val (.long v10), .second, .val (.long (0 : Int64)), .second, .val (.long (0 : Int64)), .second, .val (.long v11), .second, .val (.long v12), .second, .val (.long v13), .second, .val (.long v15), .second, .unset, .unset, .unset, .unset, .unset] [(.int v16)])) _
      refine XS.istore X108.here hx rfl (hb hby at_184) rfl (l' := #[.val (.long q0), .second, .val (.int p1), .val (.long q2), .second, .val (.long q3), .second, .val (.long q4), .second, .val (.long q5), .second, .val (.int (0 : Int32)), .val (.int v3), .val (.int v5), .val (.long v6), .second, .val (.int v7), .val (.long v8), .second, .val (.int v9), .val (.long v10), .second, .val (.long (0 : Int64)), .second, .val (.long (0 : Int64)), .second, .val (.long v11), .second, .val (.long v12), .second, .val (.long v13), .second, .val (.long v15), .second, .val (.int v16), .unset, .unset, .unset, .unset]) rfl ?_
      show Steps p.tables e below (T108.setTop (mkF m 186 #[.val (.long q0), .second, .val (.int p1), .val (.long q2), .second, .val (.long q3), .second, .val (.long q4), .second, .val (.long q5), .second, .val (.int (0 : Int32)), .val (.int v3), .val (.int v5), .val (.long v6), .second, .val (.int v7), .val (.long v8), .second, .val (.int v9), .val (.long v10), .second, .val (.long (0 : Int64)), .second, .val (.long (0 : Int64)), .second, .val (.long v11), .second, .val (.long v12), .second, .val (.long v13), .second, .val (.long v15), .second, .val (.int v16), .unset, .unset, .unset, .unset] [])) _
      refine XS.iconst X108.here hx rfl (hb hby at_186) ?_
      show Steps p.tables e below (T108.setTop (mkF m 187 #[.val (.long q0), .second, .val (.int p1), .val (.long q2), .second, .val (.long q3), .second, .val (.long q4), .second, .val (.long q5), .second, .val (.int (0 : Int32)), .val (.int v3), .val (.int v5), .val (.long v6), .second, .val (.int v7), .val (.long v8), .second, .val (.int v9), .val (.long v10), .second, .val (.long (0 : Int64)), .second, .val (.long (0 : Int64)), .second, .val (.long v11), .second, .val (.long v12), .second, .val (.long v13), .second, .val (.long v15), .second, .val (.int v16), .unset, .unset, .unset, .unset] [(.int (3 : Int32))])) _
      refine st109 _ ?_
      show Steps p.tables e below (T109.setTop (mkF m 189 #[.val (.long q0), .second, .val (.int p1), .val (.long q2), .second, .val (.long q3), .second, .val (.long q4), .second, .val (.long q5), .second, .val (.int (0 : Int32)), .val (.int v3), .val (.int v5), .val (.long v6), .second, .val (.int v7), .val (.long v8), .second, .val (.int v9), .val (.long v10), .second, .val (.long (0 : Int64)), .second, .val (.long (0 : Int64)), .second, .val (.long v11), .second, .val (.long v12), .second, .val (.long v13), .second, .val (.long v15), .second, .val (.int v16), .unset, .unset, .unset, .unset] [(.ref b109)])) _
      refine XS.astore X109.here hx rfl (hb hby at_189) rfl rfl (l' := #[.val (.long q0), .second, .val (.int p1), .val (.long q2), .second, .val (.long q3), .second, .val (.long q4), .second, .val (.long q5), .second, .val (.int (0 : Int32)), .val (.int v3), .val (.int v5), .val (.long v6), .second, .val (.int v7), .val (.long v8), .second, .val (.int v9), .val (.long v10), .second, .val (.long (0 : Int64)), .second, .val (.long (0 : Int64)), .second, .val (.long v11), .second, .val (.long v12), .second, .val (.long v13), .second, .val (.long v15), .second, .val (.int v16), .val (.ref b109), .unset, .unset, .unset]) rfl ?_
      show Steps p.tables e below (T109.setTop (mkF m 191 #[.val (.long q0), .second, .val (.int p1), .val (.long q2), .second, .val (.long q3), .second, .val (.long q4), .second, .val (.long q5), .second, .val (.int (0 : Int32)), .val (.int v3), .val (.int v5), .val (.long v6), .second, .val (.int v7), .val (.long v8), .second, .val (.int v9), .val (.long v10), .second, .val (.long (0 : Int64)), .second, .val (.long (0 : Int64)), .second, .val (.long v11), .second, .val (.long v12), .second, .val (.long v13), .second, .val (.long v15), .second, .val (.int v16), .val (.ref b109), .unset, .unset, .unset] [])) _
      refine XS.iconst X109.here hx rfl (hb hby at_191) ?_
      refine XS.istore X109.here hx rfl (hb hby at_192) rfl (l' := #[.val (.long q0), .second, .val (.int p1), .val (.long q2), .second, .val (.long q3), .second, .val (.long q4), .second, .val (.long q5), .second, .val (.int (0 : Int32)), .val (.int v3), .val (.int v5), .val (.long v6), .second, .val (.int v7), .val (.long v8), .second, .val (.int v9), .val (.long v10), .second, .val (.long (0 : Int64)), .second, .val (.long (0 : Int64)), .second, .val (.long v11), .second, .val (.long v12), .second, .val (.long v13), .second, .val (.long v15), .second, .val (.int v16), .val (.ref b109), .val (.int (0 : Int32)), .unset, .unset]) rfl ?_
      show Steps p.tables e below (T109.setTop (mkF m 194 #[.val (.long q0), .second, .val (.int p1), .val (.long q2), .second, .val (.long q3), .second, .val (.long q4), .second, .val (.long q5), .second, .val (.int (0 : Int32)), .val (.int v3), .val (.int v5), .val (.long v6), .second, .val (.int v7), .val (.long v8), .second, .val (.int v9), .val (.long v10), .second, .val (.long (0 : Int64)), .second, .val (.long (0 : Int64)), .second, .val (.long v11), .second, .val (.long v12), .second, .val (.long v13), .second, .val (.long v15), .second, .val (.int v16), .val (.ref b109), .val (.int (0 : Int32)), .unset, .unset] [])) _
      refine XS.iload X109.here hx rfl (hb hby at_194) rfl ?_
      refine XS.iconst X109.here hx rfl (hb hby at_196) ?_
      refine XS.icmpYes X109.here hx rfl (pc0 := 197) (pc' := 238) rfl (hb hby at_197) rfl (tlt (by decide : (0 : Int32) < (1 : Int32))).1 (by decide) (by decide) ?_
      show Steps p.tables e below (T109.setTop (mkF m 238 #[.val (.long q0), .second, .val (.int p1), .val (.long q2), .second, .val (.long q3), .second, .val (.long q4), .second, .val (.long q5), .second, .val (.int (0 : Int32)), .val (.int v3), .val (.int v5), .val (.long v6), .second, .val (.int v7), .val (.long v8), .second, .val (.int v9), .val (.long v10), .second, .val (.long (0 : Int64)), .second, .val (.long (0 : Int64)), .second, .val (.long v11), .second, .val (.long v12), .second, .val (.long v13), .second, .val (.long v15), .second, .val (.int v16), .val (.ref b109), .val (.int (0 : Int32)), .unset, .unset] [])) _
      refine XS.iload X109.here hx rfl (hb hby at_238) rfl ?_
      refine XS.iconst X109.here hx rfl (hb hby at_240) ?_
      refine XS.icmpYes X109.here hx rfl (pc0 := 241) (pc' := 282) rfl (hb hby at_241) rfl (feq (by decide : ¬ ((0 : Int32) = (2 : Int32)))).2 (by decide) (by decide) ?_
      show Steps p.tables e below (T109.setTop (mkF m 282 #[.val (.long q0), .second, .val (.int p1), .val (.long q2), .second, .val (.long q3), .second, .val (.long q4), .second, .val (.long q5), .second, .val (.int (0 : Int32)), .val (.int v3), .val (.int v5), .val (.long v6), .second, .val (.int v7), .val (.long v8), .second, .val (.int v9), .val (.long v10), .second, .val (.long (0 : Int64)), .second, .val (.long (0 : Int64)), .second, .val (.long v11), .second, .val (.long v12), .second, .val (.long v13), .second, .val (.long v15), .second, .val (.int v16), .val (.ref b109), .val (.int (0 : Int32)), .unset, .unset] [])) _
      refine XS.aload X109.here hx rfl (hb hby at_282) rfl rfl ?_
      refine XS.lload X109.here hx rfl (hb hby at_284) rfl ?_
      refine XS.iload X109.here hx rfl (hb hby at_286) rfl ?_
      show Steps p.tables e below (T109.setTop (mkF m 288 #[.val (.long q0), .second, .val (.int p1), .val (.long q2), .second, .val (.long q3), .second, .val (.long q4), .second, .val (.long q5), .second, .val (.int (0 : Int32)), .val (.int v3), .val (.int v5), .val (.long v6), .second, .val (.int v7), .val (.long v8), .second, .val (.int v9), .val (.long v10), .second, .val (.long (0 : Int64)), .second, .val (.long (0 : Int64)), .second, .val (.long v11), .second, .val (.long v12), .second, .val (.long v13), .second, .val (.long v15), .second, .val (.int v16), .val (.ref b109), .val (.int (0 : Int32)), .unset, .unset] [(.int (0 : Int32)), (.long q5), (.ref b109)])) _
      refine st113 _ ?_
      show Steps p.tables e below (T113.setTop (mkF m 291 #[.val (.long q0), .second, .val (.int p1), .val (.long q2), .second, .val (.long q3), .second, .val (.long q4), .second, .val (.long q5), .second, .val (.int (0 : Int32)), .val (.int v3), .val (.int v5), .val (.long v6), .second, .val (.int v7), .val (.long v8), .second, .val (.int v9), .val (.long v10), .second, .val (.long (0 : Int64)), .second, .val (.long (0 : Int64)), .second, .val (.long v11), .second, .val (.long v12), .second, .val (.long v13), .second, .val (.long v15), .second, .val (.int v16), .val (.ref b109), .val (.int (0 : Int32)), .unset, .unset] [])) _
      refine XS.bipush X113.here hx rfl (hb hby at_291) ?_
      show Steps p.tables e below (T113.setTop (mkF m 293 #[.val (.long q0), .second, .val (.int p1), .val (.long q2), .second, .val (.long q3), .second, .val (.long q4), .second, .val (.long q5), .second, .val (.int (0 : Int32)), .val (.int v3), .val (.int v5), .val (.long v6), .second, .val (.int v7), .val (.long v8), .second, .val (.int v9), .val (.long v10), .second, .val (.long (0 : Int64)), .second, .val (.long (0 : Int64)), .second, .val (.long v11), .second, .val (.long v12), .second, .val (.long v13), .second, .val (.long v15), .second, .val (.int v16), .val (.ref b109), .val (.int (0 : Int32)), .unset, .unset] [(.int (24 : Int32))])) _
      refine st116 _ ?_
      show Steps p.tables e below (T116.setTop (mkF m 295 #[.val (.long q0), .second, .val (.int p1), .val (.long q2), .second, .val (.long q3), .second, .val (.long q4), .second, .val (.long q5), .second, .val (.int (0 : Int32)), .val (.int v3), .val (.int v5), .val (.long v6), .second, .val (.int v7), .val (.long v8), .second, .val (.int v9), .val (.long v10), .second, .val (.long (0 : Int64)), .second, .val (.long (0 : Int64)), .second, .val (.long v11), .second, .val (.long v12), .second, .val (.long v13), .second, .val (.long v15), .second, .val (.int v16), .val (.ref b109), .val (.int (0 : Int32)), .unset, .unset] [(.ref b116)])) _
      refine XS.astore X116.here hx rfl (hb hby at_295) rfl rfl (l' := #[.val (.long q0), .second, .val (.int p1), .val (.long q2), .second, .val (.long q3), .second, .val (.long q4), .second, .val (.long q5), .second, .val (.int (0 : Int32)), .val (.int v3), .val (.int v5), .val (.long v6), .second, .val (.int v7), .val (.long v8), .second, .val (.int v9), .val (.long v10), .second, .val (.long (0 : Int64)), .second, .val (.long (0 : Int64)), .second, .val (.long v11), .second, .val (.long v12), .second, .val (.long v13), .second, .val (.long v15), .second, .val (.int v16), .val (.ref b109), .val (.int (0 : Int32)), .val (.ref b116), .unset]) rfl ?_
      show Steps p.tables e below (T116.setTop (mkF m 297 #[.val (.long q0), .second, .val (.int p1), .val (.long q2), .second, .val (.long q3), .second, .val (.long q4), .second, .val (.long q5), .second, .val (.int (0 : Int32)), .val (.int v3), .val (.int v5), .val (.long v6), .second, .val (.int v7), .val (.long v8), .second, .val (.int v9), .val (.long v10), .second, .val (.long (0 : Int64)), .second, .val (.long (0 : Int64)), .second, .val (.long v11), .second, .val (.long v12), .second, .val (.long v13), .second, .val (.long v15), .second, .val (.int v16), .val (.ref b109), .val (.int (0 : Int32)), .val (.ref b116), .unset] [])) _
      refine XS.aload X116.here hx rfl (hb hby at_297) rfl rfl ?_
      refine XS.iconst X116.here hx rfl (hb hby at_299) ?_
      refine XS.aload X116.here hx rfl (hb hby at_300) rfl rfl ?_
      show Steps p.tables e below (T116.setTop (mkF m 302 #[.val (.long q0), .second, .val (.int p1), .val (.long q2), .second, .val (.long q3), .second, .val (.long q4), .second, .val (.long q5), .second, .val (.int (0 : Int32)), .val (.int v3), .val (.int v5), .val (.long v6), .second, .val (.int v7), .val (.long v8), .second, .val (.int v9), .val (.long v10), .second, .val (.long (0 : Int64)), .second, .val (.long (0 : Int64)), .second, .val (.long v11), .second, .val (.long v12), .second, .val (.long v13), .second, .val (.long v15), .second, .val (.int v16), .val (.ref b109), .val (.int (0 : Int32)), .val (.ref b116), .unset] [(.ref b109), (.int (0 : Int32)), (.ref b116)])) _
      refine XS.iconst X116.here hx rfl (hb hby at_302) ?_
      show Steps p.tables e below (T116.setTop (mkF m 303 #[.val (.long q0), .second, .val (.int p1), .val (.long q2), .second, .val (.long q3), .second, .val (.long q4), .second, .val (.long q5), .second, .val (.int (0 : Int32)), .val (.int v3), .val (.int v5), .val (.long v6), .second, .val (.int v7), .val (.long v8), .second, .val (.int v9), .val (.long v10), .second, .val (.long (0 : Int64)), .second, .val (.long (0 : Int64)), .second, .val (.long v11), .second, .val (.long v12), .second, .val (.long v13), .second, .val (.long v15), .second, .val (.int v16), .val (.ref b109), .val (.int (0 : Int32)), .val (.ref b116), .unset] [(.int (0 : Int32)), (.ref b109), (.int (0 : Int32)), (.ref b116)])) _
      refine own_ldJ X116 hx hZ e116 F117 (j := (0 : Int32)) hin303_121 (g := (mkF m 303 #[.val (.long q0), .second, .val (.int p1), .val (.long q2), .second, .val (.long q3), .second, .val (.long q4), .second, .val (.long q5), .second, .val (.int (0 : Int32)), .val (.int v3), .val (.int v5), .val (.long v6), .second, .val (.int v7), .val (.long v8), .second, .val (.int v9), .val (.long v10), .second, .val (.long (0 : Int64)), .second, .val (.long (0 : Int64)), .second, .val (.long v11), .second, .val (.long v12), .second, .val (.long v13), .second, .val (.long v15), .second, .val (.int v16), .val (.ref b109), .val (.int (0 : Int32)), .val (.ref b116), .unset] [(.int (0 : Int32)), (.ref b109), (.int (0 : Int32)), (.ref b116)])) rfl rfl (hb hby at_303) _ ?_
      show Steps p.tables e below (T116.setTop (mkF m 304 #[.val (.long q0), .second, .val (.int p1), .val (.long q2), .second, .val (.long q3), .second, .val (.long q4), .second, .val (.long q5), .second, .val (.int (0 : Int32)), .val (.int v3), .val (.int v5), .val (.long v6), .second, .val (.int v7), .val (.long v8), .second, .val (.int v9), .val (.long v10), .second, .val (.long (0 : Int64)), .second, .val (.long (0 : Int64)), .second, .val (.long v11), .second, .val (.long v12), .second, .val (.long v13), .second, .val (.long v15), .second, .val (.int v16), .val (.ref b109), .val (.int (0 : Int32)), .val (.ref b116), .unset] [(.long (v18 0)), (.int (0 : Int32)), (.ref b116)])) _
      rw [← hv20]
      show Steps p.tables e below (T116.setTop (mkF m 304 #[.val (.long q0), .second, .val (.int p1), .val (.long q2), .second, .val (.long q3), .second, .val (.long q4), .second, .val (.long q5), .second, .val (.int (0 : Int32)), .val (.int v3), .val (.int v5), .val (.long v6), .second, .val (.int v7), .val (.long v8), .second, .val (.int v9), .val (.long v10), .second, .val (.long (0 : Int64)), .second, .val (.long (0 : Int64)), .second, .val (.long v11), .second, .val (.long v12), .second, .val (.long v13), .second, .val (.long v15), .second, .val (.int v16), .val (.ref b109), .val (.int (0 : Int32)), .val (.ref b116), .unset] [(.long v20), (.int (0 : Int32)), (.ref b116)])) _
      refine st122 _ ?_
      show Steps p.tables e below (T122.setTop (mkF m 307 #[.val (.long q0), .second, .val (.int p1), .val (.long q2), .second, .val (.long q3), .second, .val (.long q4), .second, .val (.long q5), .second, .val (.int (0 : Int32)), .val (.int v3), .val (.int v5), .val (.long v6), .second, .val (.int v7), .val (.long v8), .second, .val (.int v9), .val (.long v10), .second, .val (.long (0 : Int64)), .second, .val (.long (0 : Int64)), .second, .val (.long v11), .second, .val (.long v12), .second, .val (.long v13), .second, .val (.long v15), .second, .val (.int v16), .val (.ref b109), .val (.int (0 : Int32)), .val (.ref b116), .unset] [])) _
      refine XS.aload X122.here hx rfl (hb hby at_307) rfl rfl ?_
      refine XS.bipush X122.here hx rfl (hb hby at_309) ?_
      refine XS.aload X122.here hx rfl (hb hby at_311) rfl rfl ?_
      show Steps p.tables e below (T122.setTop (mkF m 313 #[.val (.long q0), .second, .val (.int p1), .val (.long q2), .second, .val (.long q3), .second, .val (.long q4), .second, .val (.long q5), .second, .val (.int (0 : Int32)), .val (.int v3), .val (.int v5), .val (.long v6), .second, .val (.int v7), .val (.long v8), .second, .val (.int v9), .val (.long v10), .second, .val (.long (0 : Int64)), .second, .val (.long (0 : Int64)), .second, .val (.long v11), .second, .val (.long v12), .second, .val (.long v13), .second, .val (.long v15), .second, .val (.int v16), .val (.ref b109), .val (.int (0 : Int32)), .val (.ref b116), .unset] [(.ref b109), (.int (8 : Int32)), (.ref b116)])) _
      refine XS.iconst X122.here hx rfl (hb hby at_313) ?_
      show Steps p.tables e below (T122.setTop (mkF m 314 #[.val (.long q0), .second, .val (.int p1), .val (.long q2), .second, .val (.long q3), .second, .val (.long q4), .second, .val (.long q5), .second, .val (.int (0 : Int32)), .val (.int v3), .val (.int v5), .val (.long v6), .second, .val (.int v7), .val (.long v8), .second, .val (.int v9), .val (.long v10), .second, .val (.long (0 : Int64)), .second, .val (.long (0 : Int64)), .second, .val (.long v11), .second, .val (.long v12), .second, .val (.long v13), .second, .val (.long v15), .second, .val (.int v16), .val (.ref b109), .val (.int (0 : Int32)), .val (.ref b116), .unset] [(.int (1 : Int32)), (.ref b109), (.int (8 : Int32)), (.ref b116)])) _
      refine own_ldJ X122 hx hZ (rfl : T122.heap = T122.heap) F123 (j := (1 : Int32)) hin314_126 (g := (mkF m 314 #[.val (.long q0), .second, .val (.int p1), .val (.long q2), .second, .val (.long q3), .second, .val (.long q4), .second, .val (.long q5), .second, .val (.int (0 : Int32)), .val (.int v3), .val (.int v5), .val (.long v6), .second, .val (.int v7), .val (.long v8), .second, .val (.int v9), .val (.long v10), .second, .val (.long (0 : Int64)), .second, .val (.long (0 : Int64)), .second, .val (.long v11), .second, .val (.long v12), .second, .val (.long v13), .second, .val (.long v15), .second, .val (.int v16), .val (.ref b109), .val (.int (0 : Int32)), .val (.ref b116), .unset] [(.int (1 : Int32)), (.ref b109), (.int (8 : Int32)), (.ref b116)])) rfl rfl (hb hby at_314) _ ?_
      show Steps p.tables e below (T122.setTop (mkF m 315 #[.val (.long q0), .second, .val (.int p1), .val (.long q2), .second, .val (.long q3), .second, .val (.long q4), .second, .val (.long q5), .second, .val (.int (0 : Int32)), .val (.int v3), .val (.int v5), .val (.long v6), .second, .val (.int v7), .val (.long v8), .second, .val (.int v9), .val (.long v10), .second, .val (.long (0 : Int64)), .second, .val (.long (0 : Int64)), .second, .val (.long v11), .second, .val (.long v12), .second, .val (.long v13), .second, .val (.long v15), .second, .val (.int v16), .val (.ref b109), .val (.int (0 : Int32)), .val (.ref b116), .unset] [(.long (v18 1)), (.int (8 : Int32)), (.ref b116)])) _
      rw [← hv22]
      show Steps p.tables e below (T122.setTop (mkF m 315 #[.val (.long q0), .second, .val (.int p1), .val (.long q2), .second, .val (.long q3), .second, .val (.long q4), .second, .val (.long q5), .second, .val (.int (0 : Int32)), .val (.int v3), .val (.int v5), .val (.long v6), .second, .val (.int v7), .val (.long v8), .second, .val (.int v9), .val (.long v10), .second, .val (.long (0 : Int64)), .second, .val (.long (0 : Int64)), .second, .val (.long v11), .second, .val (.long v12), .second, .val (.long v13), .second, .val (.long v15), .second, .val (.int v16), .val (.ref b109), .val (.int (0 : Int32)), .val (.ref b116), .unset] [(.long v22), (.int (8 : Int32)), (.ref b116)])) _
      refine st127 _ ?_
      show Steps p.tables e below (T127.setTop (mkF m 318 #[.val (.long q0), .second, .val (.int p1), .val (.long q2), .second, .val (.long q3), .second, .val (.long q4), .second, .val (.long q5), .second, .val (.int (0 : Int32)), .val (.int v3), .val (.int v5), .val (.long v6), .second, .val (.int v7), .val (.long v8), .second, .val (.int v9), .val (.long v10), .second, .val (.long (0 : Int64)), .second, .val (.long (0 : Int64)), .second, .val (.long v11), .second, .val (.long v12), .second, .val (.long v13), .second, .val (.long v15), .second, .val (.int v16), .val (.ref b109), .val (.int (0 : Int32)), .val (.ref b116), .unset] [])) _
      refine XS.aload X127.here hx rfl (hb hby at_318) rfl rfl ?_
      refine XS.bipush X127.here hx rfl (hb hby at_320) ?_
      refine XS.aload X127.here hx rfl (hb hby at_322) rfl rfl ?_
      show Steps p.tables e below (T127.setTop (mkF m 324 #[.val (.long q0), .second, .val (.int p1), .val (.long q2), .second, .val (.long q3), .second, .val (.long q4), .second, .val (.long q5), .second, .val (.int (0 : Int32)), .val (.int v3), .val (.int v5), .val (.long v6), .second, .val (.int v7), .val (.long v8), .second, .val (.int v9), .val (.long v10), .second, .val (.long (0 : Int64)), .second, .val (.long (0 : Int64)), .second, .val (.long v11), .second, .val (.long v12), .second, .val (.long v13), .second, .val (.long v15), .second, .val (.int v16), .val (.ref b109), .val (.int (0 : Int32)), .val (.ref b116), .unset] [(.ref b109), (.int (16 : Int32)), (.ref b116)])) _
      refine XS.iconst X127.here hx rfl (hb hby at_324) ?_
      show Steps p.tables e below (T127.setTop (mkF m 325 #[.val (.long q0), .second, .val (.int p1), .val (.long q2), .second, .val (.long q3), .second, .val (.long q4), .second, .val (.long q5), .second, .val (.int (0 : Int32)), .val (.int v3), .val (.int v5), .val (.long v6), .second, .val (.int v7), .val (.long v8), .second, .val (.int v9), .val (.long v10), .second, .val (.long (0 : Int64)), .second, .val (.long (0 : Int64)), .second, .val (.long v11), .second, .val (.long v12), .second, .val (.long v13), .second, .val (.long v15), .second, .val (.int v16), .val (.ref b109), .val (.int (0 : Int32)), .val (.ref b116), .unset] [(.int (2 : Int32)), (.ref b109), (.int (16 : Int32)), (.ref b116)])) _
      refine own_ldJ X127 hx hZ (rfl : T127.heap = T127.heap) F128 (j := (2 : Int32)) hin325_131 (g := (mkF m 325 #[.val (.long q0), .second, .val (.int p1), .val (.long q2), .second, .val (.long q3), .second, .val (.long q4), .second, .val (.long q5), .second, .val (.int (0 : Int32)), .val (.int v3), .val (.int v5), .val (.long v6), .second, .val (.int v7), .val (.long v8), .second, .val (.int v9), .val (.long v10), .second, .val (.long (0 : Int64)), .second, .val (.long (0 : Int64)), .second, .val (.long v11), .second, .val (.long v12), .second, .val (.long v13), .second, .val (.long v15), .second, .val (.int v16), .val (.ref b109), .val (.int (0 : Int32)), .val (.ref b116), .unset] [(.int (2 : Int32)), (.ref b109), (.int (16 : Int32)), (.ref b116)])) rfl rfl (hb hby at_325) _ ?_
      show Steps p.tables e below (T127.setTop (mkF m 326 #[.val (.long q0), .second, .val (.int p1), .val (.long q2), .second, .val (.long q3), .second, .val (.long q4), .second, .val (.long q5), .second, .val (.int (0 : Int32)), .val (.int v3), .val (.int v5), .val (.long v6), .second, .val (.int v7), .val (.long v8), .second, .val (.int v9), .val (.long v10), .second, .val (.long (0 : Int64)), .second, .val (.long (0 : Int64)), .second, .val (.long v11), .second, .val (.long v12), .second, .val (.long v13), .second, .val (.long v15), .second, .val (.int v16), .val (.ref b109), .val (.int (0 : Int32)), .val (.ref b116), .unset] [(.long (v18 2)), (.int (16 : Int32)), (.ref b116)])) _
      rw [← hv24]
      show Steps p.tables e below (T127.setTop (mkF m 326 #[.val (.long q0), .second, .val (.int p1), .val (.long q2), .second, .val (.long q3), .second, .val (.long q4), .second, .val (.long q5), .second, .val (.int (0 : Int32)), .val (.int v3), .val (.int v5), .val (.long v6), .second, .val (.int v7), .val (.long v8), .second, .val (.int v9), .val (.long v10), .second, .val (.long (0 : Int64)), .second, .val (.long (0 : Int64)), .second, .val (.long v11), .second, .val (.long v12), .second, .val (.long v13), .second, .val (.long v15), .second, .val (.int v16), .val (.ref b109), .val (.int (0 : Int32)), .val (.ref b116), .unset] [(.long v24), (.int (16 : Int32)), (.ref b116)])) _
      refine st132 _ ?_
      show Steps p.tables e below (T132.setTop (mkF m 329 #[.val (.long q0), .second, .val (.int p1), .val (.long q2), .second, .val (.long q3), .second, .val (.long q4), .second, .val (.long q5), .second, .val (.int (0 : Int32)), .val (.int v3), .val (.int v5), .val (.long v6), .second, .val (.int v7), .val (.long v8), .second, .val (.int v9), .val (.long v10), .second, .val (.long (0 : Int64)), .second, .val (.long (0 : Int64)), .second, .val (.long v11), .second, .val (.long v12), .second, .val (.long v13), .second, .val (.long v15), .second, .val (.int v16), .val (.ref b109), .val (.int (0 : Int32)), .val (.ref b116), .unset] [])) _
      refine XS.lload X132.here hx rfl (hb hby at_329) rfl ?_
      refine XS.iload X132.here hx rfl (hb hby at_331) rfl ?_
      refine XS.iload X132.here hx rfl (hb hby at_333) rfl ?_
      show Steps p.tables e below (T132.setTop (mkF m 335 #[.val (.long q0), .second, .val (.int p1), .val (.long q2), .second, .val (.long q3), .second, .val (.long q4), .second, .val (.long q5), .second, .val (.int (0 : Int32)), .val (.int v3), .val (.int v5), .val (.long v6), .second, .val (.int v7), .val (.long v8), .second, .val (.int v9), .val (.long v10), .second, .val (.long (0 : Int64)), .second, .val (.long (0 : Int64)), .second, .val (.long v11), .second, .val (.long v12), .second, .val (.long v13), .second, .val (.long v15), .second, .val (.int v16), .val (.ref b109), .val (.int (0 : Int32)), .val (.ref b116), .unset] [(.int (0 : Int32)), (.int v16), (.long v11)])) _
      refine XS.aload X132.here hx rfl (hb hby at_335) rfl rfl ?_
      refine XS.lload X132.here hx rfl (hb hby at_337) rfl ?_
      show Steps p.tables e below (T132.setTop (mkF m 339 #[.val (.long q0), .second, .val (.int p1), .val (.long q2), .second, .val (.long q3), .second, .val (.long q4), .second, .val (.long q5), .second, .val (.int (0 : Int32)), .val (.int v3), .val (.int v5), .val (.long v6), .second, .val (.int v7), .val (.long v8), .second, .val (.int v9), .val (.long v10), .second, .val (.long (0 : Int64)), .second, .val (.long (0 : Int64)), .second, .val (.long v11), .second, .val (.long v12), .second, .val (.long v13), .second, .val (.long v15), .second, .val (.int v16), .val (.ref b109), .val (.int (0 : Int32)), .val (.ref b116), .unset] [(.long v15), (.ref b116), (.int (0 : Int32)), (.int v16), (.long v11)])) _
      refine st136 _ ?_
      show Steps p.tables e below (T136.setTop (mkF m 342 #[.val (.long q0), .second, .val (.int p1), .val (.long q2), .second, .val (.long q3), .second, .val (.long q4), .second, .val (.long q5), .second, .val (.int (0 : Int32)), .val (.int v3), .val (.int v5), .val (.long v6), .second, .val (.int v7), .val (.long v8), .second, .val (.int v9), .val (.long v10), .second, .val (.long (0 : Int64)), .second, .val (.long (0 : Int64)), .second, .val (.long v11), .second, .val (.long v12), .second, .val (.long v13), .second, .val (.long v15), .second, .val (.int v16), .val (.ref b109), .val (.int (0 : Int32)), .val (.ref b116), .unset] [(.ref b136_0)])) _
      refine XS.astore X136.here hx rfl (hb hby at_342) rfl rfl (l' := #[.val (.long q0), .second, .val (.int p1), .val (.long q2), .second, .val (.long q3), .second, .val (.long q4), .second, .val (.long q5), .second, .val (.int (0 : Int32)), .val (.int v3), .val (.int v5), .val (.long v6), .second, .val (.int v7), .val (.long v8), .second, .val (.int v9), .val (.long v10), .second, .val (.long (0 : Int64)), .second, .val (.long (0 : Int64)), .second, .val (.long v11), .second, .val (.long v12), .second, .val (.long v13), .second, .val (.long v15), .second, .val (.int v16), .val (.ref b109), .val (.int (0 : Int32)), .val (.ref b116), .val (.ref b136_0)]) rfl ?_
      show Steps p.tables e below (T136.setTop (mkF m 344 #[.val (.long q0), .second, .val (.int p1), .val (.long q2), .second, .val (.long q3), .second, .val (.long q4), .second, .val (.long q5), .second, .val (.int (0 : Int32)), .val (.int v3), .val (.int v5), .val (.long v6), .second, .val (.int v7), .val (.long v8), .second, .val (.int v9), .val (.long v10), .second, .val (.long (0 : Int64)), .second, .val (.long (0 : Int64)), .second, .val (.long v11), .second, .val (.long v12), .second, .val (.long v13), .second, .val (.long v15), .second, .val (.int v16), .val (.ref b109), .val (.int (0 : Int32)), .val (.ref b116), .val (.ref b136_0)] [])) _
      refine XS.aload X136.here hx rfl (hb hby at_344) rfl rfl ?_
      show Steps p.tables e below (T136.setTop (mkF m 346 #[.val (.long q0), .second, .val (.int p1), .val (.long q2), .second, .val (.long q3), .second, .val (.long q4), .second, .val (.long q5), .second, .val (.int (0 : Int32)), .val (.int v3), .val (.int v5), .val (.long v6), .second, .val (.int v7), .val (.long v8), .second, .val (.int v9), .val (.long v10), .second, .val (.long (0 : Int64)), .second, .val (.long (0 : Int64)), .second, .val (.long v11), .second, .val (.long v12), .second, .val (.long v13), .second, .val (.long v15), .second, .val (.int v16), .val (.ref b109), .val (.int (0 : Int32)), .val (.ref b116), .val (.ref b136_0)] [(.ref b136_0)])) _
      refine own_lenI X136 hx hZ (rfl : T136.heap = T136.heap) F136_1n (g := (mkF m 346 #[.val (.long q0), .second, .val (.int p1), .val (.long q2), .second, .val (.long q3), .second, .val (.long q4), .second, .val (.long q5), .second, .val (.int (0 : Int32)), .val (.int v3), .val (.int v5), .val (.long v6), .second, .val (.int v7), .val (.long v8), .second, .val (.int v9), .val (.long v10), .second, .val (.long (0 : Int64)), .second, .val (.long (0 : Int64)), .second, .val (.long v11), .second, .val (.long v12), .second, .val (.long v13), .second, .val (.long v15), .second, .val (.int v16), .val (.ref b109), .val (.int (0 : Int32)), .val (.ref b116), .val (.ref b136_0)] [(.ref b136_0)])) rfl rfl (hb hby at_346) _ ?_
      show Steps p.tables e below (T136.setTop (mkF m 347 #[.val (.long q0), .second, .val (.int p1), .val (.long q2), .second, .val (.long q3), .second, .val (.long q4), .second, .val (.long q5), .second, .val (.int (0 : Int32)), .val (.int v3), .val (.int v5), .val (.long v6), .second, .val (.int v7), .val (.long v8), .second, .val (.int v9), .val (.long v10), .second, .val (.long (0 : Int64)), .second, .val (.long (0 : Int64)), .second, .val (.long v11), .second, .val (.long v12), .second, .val (.long v13), .second, .val (.long v15), .second, .val (.int v16), .val (.ref b109), .val (.int (0 : Int32)), .val (.ref b116), .val (.ref b136_0)] [(.int (1 : Int32))])) _
      refine XS.iload X136.here hx rfl (hb hby at_347) rfl ?_
      refine XS.iconst X136.here hx rfl (hb hby at_349) ?_
      refine XS.iadd X136.here hx rfl (hb hby at_350) rfl ?_
      show Steps p.tables e below (T136.setTop (mkF m 351 #[.val (.long q0), .second, .val (.int p1), .val (.long q2), .second, .val (.long q3), .second, .val (.long q4), .second, .val (.long q5), .second, .val (.int (0 : Int32)), .val (.int v3), .val (.int v5), .val (.long v6), .second, .val (.int v7), .val (.long v8), .second, .val (.int v9), .val (.long v10), .second, .val (.long (0 : Int64)), .second, .val (.long (0 : Int64)), .second, .val (.long v11), .second, .val (.long v12), .second, .val (.long v13), .second, .val (.long v15), .second, .val (.int v16), .val (.ref b109), .val (.int (0 : Int32)), .val (.ref b116), .val (.ref b136_0)] [(.int (1 : Int32)), (.int (1 : Int32))])) _
      refine XS.icmpYes X136.here hx rfl (pc0 := 351) (pc' := 356) rfl (hb hby at_351) rfl (teq (by decide : (1 : Int32) = (1 : Int32))).1 (by decide) (by decide) ?_
      show Steps p.tables e below (T136.setTop (mkF m 356 #[.val (.long q0), .second, .val (.int p1), .val (.long q2), .second, .val (.long q3), .second, .val (.long q4), .second, .val (.long q5), .second, .val (.int (0 : Int32)), .val (.int v3), .val (.int v5), .val (.long v6), .second, .val (.int v7), .val (.long v8), .second, .val (.int v9), .val (.long v10), .second, .val (.long (0 : Int64)), .second, .val (.long (0 : Int64)), .second, .val (.long v11), .second, .val (.long v12), .second, .val (.long v13), .second, .val (.long v15), .second, .val (.int v16), .val (.ref b109), .val (.int (0 : Int32)), .val (.ref b116), .val (.ref b136_0)] [])) _
      refine XS.aload X136.here hx rfl (hb hby at_356) rfl rfl ?_
      refine XS.iconst X136.here hx rfl (hb hby at_358) ?_
      show Steps p.tables e below (T136.setTop (mkF m 359 #[.val (.long q0), .second, .val (.int p1), .val (.long q2), .second, .val (.long q3), .second, .val (.long q4), .second, .val (.long q5), .second, .val (.int (0 : Int32)), .val (.int v3), .val (.int v5), .val (.long v6), .second, .val (.int v7), .val (.long v8), .second, .val (.int v9), .val (.long v10), .second, .val (.long (0 : Int64)), .second, .val (.long (0 : Int64)), .second, .val (.long v11), .second, .val (.long v12), .second, .val (.long v13), .second, .val (.long v15), .second, .val (.int v16), .val (.ref b109), .val (.int (0 : Int32)), .val (.ref b116), .val (.ref b136_0)] [(.int (0 : Int32)), (.ref b136_0)])) _
      refine own_ldI X136 hx hZ (rfl : T136.heap = T136.heap) F136_1n (j := (0 : Int32)) hin359_141 (g := (mkF m 359 #[.val (.long q0), .second, .val (.int p1), .val (.long q2), .second, .val (.long q3), .second, .val (.long q4), .second, .val (.long q5), .second, .val (.int (0 : Int32)), .val (.int v3), .val (.int v5), .val (.long v6), .second, .val (.int v7), .val (.long v8), .second, .val (.int v9), .val (.long v10), .second, .val (.long (0 : Int64)), .second, .val (.long (0 : Int64)), .second, .val (.long v11), .second, .val (.long v12), .second, .val (.long v13), .second, .val (.long v15), .second, .val (.int v16), .val (.ref b109), .val (.int (0 : Int32)), .val (.ref b116), .val (.ref b136_0)] [(.int (0 : Int32)), (.ref b136_0)])) rfl rfl (hb hby at_359) _ ?_
      show Steps p.tables e below (T136.setTop (mkF m 360 #[.val (.long q0), .second, .val (.int p1), .val (.long q2), .second, .val (.long q3), .second, .val (.long q4), .second, .val (.long q5), .second, .val (.int (0 : Int32)), .val (.int v3), .val (.int v5), .val (.long v6), .second, .val (.int v7), .val (.long v8), .second, .val (.int v9), .val (.long v10), .second, .val (.long (0 : Int64)), .second, .val (.long (0 : Int64)), .second, .val (.long v11), .second, .val (.long v12), .second, .val (.long v13), .second, .val (.long v15), .second, .val (.int v16), .val (.ref b109), .val (.int (0 : Int32)), .val (.ref b116), .val (.ref b136_0)] [(.int (v26 0))])) _
      refine XS.lload X136.here hx rfl (hb hby at_360) rfl ?_
      refine XS.l2i X136.here hx rfl (hb hby at_362) rfl ?_
      show Steps p.tables e below (T136.setTop (mkF m 363 #[.val (.long q0), .second, .val (.int p1), .val (.long q2), .second, .val (.long q3), .second, .val (.long q4), .second, .val (.long q5), .second, .val (.int (0 : Int32)), .val (.int v3), .val (.int v5), .val (.long v6), .second, .val (.int v7), .val (.long v8), .second, .val (.int v9), .val (.long v10), .second, .val (.long (0 : Int64)), .second, .val (.long (0 : Int64)), .second, .val (.long v11), .second, .val (.long v12), .second, .val (.long v13), .second, .val (.long v15), .second, .val (.int v16), .val (.ref b109), .val (.int (0 : Int32)), .val (.ref b116), .val (.ref b136_0)] [(.int (v11.toInt32)), (.int (v26 0))])) _
      refine XS.icmpYes X136.here hx rfl (pc0 := 363) (pc' := 368) rfl (hb hby at_363) rfl (teq (by rw [hv26]; rfl)).1 (by decide) (by decide) ?_
      show Steps p.tables e below (T136.setTop (mkF m 368 #[.val (.long q0), .second, .val (.int p1), .val (.long q2), .second, .val (.long q3), .second, .val (.long q4), .second, .val (.long q5), .second, .val (.int (0 : Int32)), .val (.int v3), .val (.int v5), .val (.long v6), .second, .val (.int v7), .val (.long v8), .second, .val (.int v9), .val (.long v10), .second, .val (.long (0 : Int64)), .second, .val (.long (0 : Int64)), .second, .val (.long v11), .second, .val (.long v12), .second, .val (.long v13), .second, .val (.long v15), .second, .val (.int v16), .val (.ref b109), .val (.int (0 : Int32)), .val (.ref b116), .val (.ref b136_0)] [])) _
      refine XS.iload X136.here hx rfl (hb hby at_368) rfl ?_
      refine XS.iconst X136.here hx rfl (hb hby at_370) ?_
      refine XS.icmpYes X136.here hx rfl (pc0 := 371) (pc' := 386) rfl (hb hby at_371) rfl (tlt (by decide : (0 : Int32) < (1 : Int32))).1 (by decide) (by decide) ?_
      show Steps p.tables e below (T136.setTop (mkF m 386 #[.val (.long q0), .second, .val (.int p1), .val (.long q2), .second, .val (.long q3), .second, .val (.long q4), .second, .val (.long q5), .second, .val (.int (0 : Int32)), .val (.int v3), .val (.int v5), .val (.long v6), .second, .val (.int v7), .val (.long v8), .second, .val (.int v9), .val (.long v10), .second, .val (.long (0 : Int64)), .second, .val (.long (0 : Int64)), .second, .val (.long v11), .second, .val (.long v12), .second, .val (.long v13), .second, .val (.long v15), .second, .val (.int v16), .val (.ref b109), .val (.int (0 : Int32)), .val (.ref b116), .val (.ref b136_0)] [])) _
      refine XS.iload X136.here hx rfl (hb hby at_386) rfl ?_
      refine XS.iconst X136.here hx rfl (hb hby at_388) ?_
      refine XS.icmpYes X136.here hx rfl (pc0 := 389) (pc' := 404) rfl (hb hby at_389) rfl (feq (by decide : ¬ ((0 : Int32) = (2 : Int32)))).2 (by decide) (by decide) ?_
      show Steps p.tables e below (T136.setTop (mkF m 404 #[.val (.long q0), .second, .val (.int p1), .val (.long q2), .second, .val (.long q3), .second, .val (.long q4), .second, .val (.long q5), .second, .val (.int (0 : Int32)), .val (.int v3), .val (.int v5), .val (.long v6), .second, .val (.int v7), .val (.long v8), .second, .val (.int v9), .val (.long v10), .second, .val (.long (0 : Int64)), .second, .val (.long (0 : Int64)), .second, .val (.long v11), .second, .val (.long v12), .second, .val (.long v13), .second, .val (.long v15), .second, .val (.int v16), .val (.ref b109), .val (.int (0 : Int32)), .val (.ref b116), .val (.ref b136_0)] [])) _
      refine XS.iconst X136.here hx rfl (hb hby at_404) ?_
      exact kt
    refine own_go hgo142 ?_
    exact own_retZ X136 hx Bd.returns Bd.notSynchronized (hb hby at_405) (by decide) (by decide) (Or.inr (rfl : (1 : Int32) = 1)) ⟨by rw [(rfl : (1 : Int32) = 1)], N136⟩
  by_cases hs8_27 : v1 = (1 : Int32)
  · have hnz14_143 : ¬ ((27 : Int32) = (0 : Int32)) := by decide
    obtain ⟨v28, hv28⟩ : ∃ z : Int32, z = ((2 : Int32) + (((p1.toUInt32 >>> ((2 : Int32) &&& 31).toUInt32).toInt32) % (27 : Int32))) := ⟨_, rfl⟩
    obtain ⟨v30, hv30⟩ : ∃ z : Int32, z = (if v28 < (25 : Int32) then (63 : Int32) else (((1 : Int32) <<< (((30 : Int32) - v28) &&& 31)) - (1 : Int32))) := ⟨_, rfl⟩
    obtain ⟨T146, lc146, X146, N146, e146, st146⟩ := own_mrg (n0 := n0) (h := h0) (g := (mkF m 22 #[.val (.long q0), .second, .val (.int p1), .val (.long q2), .second, .val (.long q3), .second, .val (.long q4), .second, .val (.long q5), .second, .val (.int (1 : Int32)), .val (.int v28), .unset, .unset, .unset, .unset, .unset, .unset, .unset, .unset, .unset, .unset, .unset, .unset, .unset, .unset, .unset, .unset, .unset, .unset, .unset, .unset, .unset, .unset, .unset, .unset, .unset, .unset] [(.int (25 : Int32)), (.int v28)])) (g' := (mkF m 39 #[.val (.long q0), .second, .val (.int p1), .val (.long q2), .second, .val (.long q3), .second, .val (.long q4), .second, .val (.long q5), .second, .val (.int (1 : Int32)), .val (.int v28), .unset, .unset, .unset, .unset, .unset, .unset, .unset, .unset, .unset, .unset, .unset, .unset, .unset, .unset, .unset, .unset, .unset, .unset, .unset, .unset, .unset, .unset, .unset, .unset, .unset, .unset] [(.int v30)])) X0 (by
      by_cases hc22_29 : v28 < (25 : Int32)
      · have hgo144 : ∀ t, Steps p.tables e below (s₁.setTop (mkF m 39 #[.val (.long q0), .second, .val (.int p1), .val (.long q2), .second, .val (.long q3), .second, .val (.long q4), .second, .val (.long q5), .second, .val (.int (1 : Int32)), .val (.int v28), .unset, .unset, .unset, .unset, .unset, .unset, .unset, .unset, .unset, .unset, .unset, .unset, .unset, .unset, .unset, .unset, .unset, .unset, .unset, .unset, .unset, .unset, .unset, .unset, .unset, .unset] [(.int (63 : Int32))])) t → Steps p.tables e below (s₁.setTop (mkF m 22 #[.val (.long q0), .second, .val (.int p1), .val (.long q2), .second, .val (.long q3), .second, .val (.long q4), .second, .val (.long q5), .second, .val (.int (1 : Int32)), .val (.int v28), .unset, .unset, .unset, .unset, .unset, .unset, .unset, .unset, .unset, .unset, .unset, .unset, .unset, .unset, .unset, .unset, .unset, .unset, .unset, .unset, .unset, .unset, .unset, .unset, .unset, .unset] [(.int (25 : Int32)), (.int v28)])) t := by
          intro t kt
          show Steps p.tables e below (s₁.setTop (mkF m 22 #[.val (.long q0), .second, .val (.int p1), .val (.long q2), .second, .val (.long q3), .second, .val (.long q4), .second, .val (.long q5), .second, .val (.int (1 : Int32)), .val (.int v28), .unset, .unset, .unset, .unset, .unset, .unset, .unset, .unset, .unset, .unset, .unset, .unset, .unset, .unset, .unset, .unset, .unset, .unset, .unset, .unset, .unset, .unset, .unset, .unset, .unset, .unset] [(.int (25 : Int32)), (.int v28)])) _
          refine XS.icmpYes X0.here hx rfl (pc0 := 22) (pc' := 37) rfl (hb hby at_22) rfl (tlt hc22_29).1 (by decide) (by decide) ?_
          show Steps p.tables e below (s₁.setTop (mkF m 37 #[.val (.long q0), .second, .val (.int p1), .val (.long q2), .second, .val (.long q3), .second, .val (.long q4), .second, .val (.long q5), .second, .val (.int (1 : Int32)), .val (.int v28), .unset, .unset, .unset, .unset, .unset, .unset, .unset, .unset, .unset, .unset, .unset, .unset, .unset, .unset, .unset, .unset, .unset, .unset, .unset, .unset, .unset, .unset, .unset, .unset, .unset, .unset] [])) _
          refine XS.bipush X0.here hx rfl (hb hby at_37) ?_
          exact kt
        refine own_arm hgo144 ?_
        exact own_armEnd X0 N0 e0 (by rw [hv30.trans (if_pos hc22_29)])
      · have hgo145 : ∀ t, Steps p.tables e below (s₁.setTop (mkF m 39 #[.val (.long q0), .second, .val (.int p1), .val (.long q2), .second, .val (.long q3), .second, .val (.long q4), .second, .val (.long q5), .second, .val (.int (1 : Int32)), .val (.int v28), .unset, .unset, .unset, .unset, .unset, .unset, .unset, .unset, .unset, .unset, .unset, .unset, .unset, .unset, .unset, .unset, .unset, .unset, .unset, .unset, .unset, .unset, .unset, .unset, .unset, .unset] [(.int (((1 : Int32) <<< (((30 : Int32) - v28) &&& 31)) - (1 : Int32)))])) t → Steps p.tables e below (s₁.setTop (mkF m 22 #[.val (.long q0), .second, .val (.int p1), .val (.long q2), .second, .val (.long q3), .second, .val (.long q4), .second, .val (.long q5), .second, .val (.int (1 : Int32)), .val (.int v28), .unset, .unset, .unset, .unset, .unset, .unset, .unset, .unset, .unset, .unset, .unset, .unset, .unset, .unset, .unset, .unset, .unset, .unset, .unset, .unset, .unset, .unset, .unset, .unset, .unset, .unset] [(.int (25 : Int32)), (.int v28)])) t := by
          intro t kt
          show Steps p.tables e below (s₁.setTop (mkF m 22 #[.val (.long q0), .second, .val (.int p1), .val (.long q2), .second, .val (.long q3), .second, .val (.long q4), .second, .val (.long q5), .second, .val (.int (1 : Int32)), .val (.int v28), .unset, .unset, .unset, .unset, .unset, .unset, .unset, .unset, .unset, .unset, .unset, .unset, .unset, .unset, .unset, .unset, .unset, .unset, .unset, .unset, .unset, .unset, .unset, .unset, .unset, .unset] [(.int (25 : Int32)), (.int v28)])) _
          refine XS.icmpNo X0.here hx rfl (hb hby at_22) rfl (flt hc22_29).1 ?_
          show Steps p.tables e below (s₁.setTop (mkF m 25 #[.val (.long q0), .second, .val (.int p1), .val (.long q2), .second, .val (.long q3), .second, .val (.long q4), .second, .val (.long q5), .second, .val (.int (1 : Int32)), .val (.int v28), .unset, .unset, .unset, .unset, .unset, .unset, .unset, .unset, .unset, .unset, .unset, .unset, .unset, .unset, .unset, .unset, .unset, .unset, .unset, .unset, .unset, .unset, .unset, .unset, .unset, .unset] [])) _
          refine XS.iconst X0.here hx rfl (hb hby at_25) ?_
          refine XS.bipush X0.here hx rfl (hb hby at_26) ?_
          refine XS.iload X0.here hx rfl (hb hby at_28) rfl ?_
          show Steps p.tables e below (s₁.setTop (mkF m 30 #[.val (.long q0), .second, .val (.int p1), .val (.long q2), .second, .val (.long q3), .second, .val (.long q4), .second, .val (.long q5), .second, .val (.int (1 : Int32)), .val (.int v28), .unset, .unset, .unset, .unset, .unset, .unset, .unset, .unset, .unset, .unset, .unset, .unset, .unset, .unset, .unset, .unset, .unset, .unset, .unset, .unset, .unset, .unset, .unset, .unset, .unset, .unset] [(.int v28), (.int (30 : Int32)), (.int (1 : Int32))])) _
          refine XS.isub X0.here hx rfl (hb hby at_30) rfl ?_
          show Steps p.tables e below (s₁.setTop (mkF m 31 #[.val (.long q0), .second, .val (.int p1), .val (.long q2), .second, .val (.long q3), .second, .val (.long q4), .second, .val (.long q5), .second, .val (.int (1 : Int32)), .val (.int v28), .unset, .unset, .unset, .unset, .unset, .unset, .unset, .unset, .unset, .unset, .unset, .unset, .unset, .unset, .unset, .unset, .unset, .unset, .unset, .unset, .unset, .unset, .unset, .unset, .unset, .unset] [(.int ((30 : Int32) - v28)), (.int (1 : Int32))])) _
          refine XS.ishl X0.here hx rfl (hb hby at_31) rfl ?_
          show Steps p.tables e below (s₁.setTop (mkF m 32 #[.val (.long q0), .second, .val (.int p1), .val (.long q2), .second, .val (.long q3), .second, .val (.long q4), .second, .val (.long q5), .second, .val (.int (1 : Int32)), .val (.int v28), .unset, .unset, .unset, .unset, .unset, .unset, .unset, .unset, .unset, .unset, .unset, .unset, .unset, .unset, .unset, .unset, .unset, .unset, .unset, .unset, .unset, .unset, .unset, .unset, .unset, .unset] [(.int ((1 : Int32) <<< (((30 : Int32) - v28) &&& 31)))])) _
          refine XS.iconst X0.here hx rfl (hb hby at_32) ?_
          refine XS.isub X0.here hx rfl (hb hby at_33) rfl ?_
          show Steps p.tables e below (s₁.setTop (mkF m 34 #[.val (.long q0), .second, .val (.int p1), .val (.long q2), .second, .val (.long q3), .second, .val (.long q4), .second, .val (.long q5), .second, .val (.int (1 : Int32)), .val (.int v28), .unset, .unset, .unset, .unset, .unset, .unset, .unset, .unset, .unset, .unset, .unset, .unset, .unset, .unset, .unset, .unset, .unset, .unset, .unset, .unset, .unset, .unset, .unset, .unset, .unset, .unset] [(.int (((1 : Int32) <<< (((30 : Int32) - v28) &&& 31)) - (1 : Int32)))])) _
          refine XS.goto X0.here hx rfl (pc0 := 34) (pc' := 39) rfl (hb hby at_34) (by decide) (by decide) ?_
          exact kt
        refine own_arm hgo145 ?_
        exact own_armEnd X0 N0 e0 (by rw [hv30.trans (if_neg hc22_29)]))
    obtain ⟨v31, hv31⟩ : ∃ z : Int64, z = (((1 : Int64) <<< (v28 &&& 0x3f).toInt64) - (1 : Int64)) := ⟨_, rfl⟩
    obtain ⟨v32, hv32⟩ : ∃ z : Int32, z = ((q2 &&& (v30.toInt64)).toInt32) := ⟨_, rfl⟩
    obtain ⟨v33, hv33⟩ : ∃ z : Int64, z = (((q2.toUInt64 >>> ((6 : Int32) &&& 0x3f).toInt64.toUInt64).toInt64) &&& v31) := ⟨_, rfl⟩
    obtain ⟨v34, hv34⟩ : ∃ z : Int32, z = ((q3 &&& (v30.toInt64)).toInt32) := ⟨_, rfl⟩
    obtain ⟨v35, hv35⟩ : ∃ z : Int64, z = (((q3.toUInt64 >>> ((6 : Int32) &&& 0x3f).toInt64.toUInt64).toInt64) &&& v31) := ⟨_, rfl⟩
    obtain ⟨v36, hv36⟩ : ∃ z : Int64, z = (((v32.toInt64) <<< (v28 &&& 0x3f).toInt64) ||| v33) := ⟨_, rfl⟩
    have ok1 : own_ok v28 v32 v33 (v28.toInt.toNat) (v32.toInt.toNat) := own_par hv28 hv30 hv31 hv32 hv33
    have D1 := own_dlt ok1 hv36
    have D2 := own_sm0
    have hnz141_147 : ¬ ((((4294967296 : Int64) - v36) - (0 : Int64)) = (0 : Int64)) := own_nz141 D1 D2
    obtain ⟨v37, hv37⟩ : ∃ z : Int64, z = ((q0 &&& (4294967295 : Int64)) % (((4294967296 : Int64) - v36) - (0 : Int64))) := ⟨_, rfl⟩
    obtain ⟨v38, hv38⟩ : ∃ z : Int64, z = (v37 + v36) := ⟨_, rfl⟩
    obtain ⟨v39, hv39⟩ : ∃ z : Int64, z = (v38 + (0 : Int64)) := ⟨_, rfl⟩
    obtain ⟨v40, hv40⟩ : ∃ z : Int64, z = (q4 &&& (4294967295 : Int64)) := ⟨_, rfl⟩
    obtain ⟨_, _, ⟨T148, L148, k148, n148⟩, -, X148, ⟨Lc148, hQ148, l148, y148, z148⟩, st148⟩ := Jvm.LawKit.callS X146 hx (y := (⟨"java/lang/Math", "max", "(JJ)J"⟩ : MethodName)) hown (mvT hZ (hw _ (List.mem_of_getElem? (i := 3) rfl))) (mvT hZ (hw _ (List.mem_of_getElem? (i := 4) rfl))) (mvT hZ (hw _ (List.mem_of_getElem? (i := 5) rfl))) (mvT hZ (hw _ (List.mem_of_getElem? (i := 6) rfl))) (by decide) (backOf (W := 0) (rmmx l Z a0 hw [] v39 v40 h0 n0 Z0 ) hZ (hw _ (List.mem_of_getElem? (i := 6) rfl)) (hw _ (List.mem_of_getElem? (i := 5) rfl)) (by decide) (by decide)) (g := (mkF m 166 #[.val (.long q0), .second, .val (.int p1), .val (.long q2), .second, .val (.long q3), .second, .val (.long q4), .second, .val (.long q5), .second, .val (.int (1 : Int32)), .val (.int v28), .val (.int v30), .val (.long v31), .second, .val (.int v32), .val (.long v33), .second, .val (.int v34), .val (.long v35), .second, .val (.long v36), .second, .val (.long (0 : Int64)), .second, .val (.long v37), .second, .val (.long v38), .second, .val (.long v39), .second, .unset, .unset, .unset, .unset, .unset, .unset, .unset] [(.long v40), (.long v39)])) rfl (by rw [hml]; rfl) (argsL := [(.long v39), (.long v40)]) (rest := []) (lenOf pd10 rfl) rfl (by show 2 * 0 + _ ≤ _; exact Nat.le_of_eq rfl) (hb hby at_166) (fun _ _ => ⟨rfl, e146, (by decide : 0 + 0 ≤ _), (by decide : 0 + 0 ≤ _)⟩)
    dsimp only [Pt.U, Pt.locs, Pt.cells, Pt.slots] at X148 l148 y148 z148 st148 hQ148
    subst l148 y148 z148
    obtain ⟨rfl, N148q, e148⟩ := hQ148
    have N148 := Fr.app N146 N148q
    obtain ⟨v41, hv41⟩ : ∃ z : Int64, z = (own_rmx v39 v40) := ⟨_, rfl⟩
    obtain ⟨fs0, fs1, fs2, fs3⟩ := own_first D1 D2 hv37 hv38 hv39 hv41
    obtain ⟨T149, h149, k149, X149, e149, E149, A149, st149⟩ := newP X148 hx hZ (hw _ (List.mem_of_getElem? (i := 7) rfl)) e148 (g := (mkF m 187 #[.val (.long q0), .second, .val (.int p1), .val (.long q2), .second, .val (.long q3), .second, .val (.long q4), .second, .val (.long q5), .second, .val (.int (1 : Int32)), .val (.int v28), .val (.int v30), .val (.long v31), .second, .val (.int v32), .val (.long v33), .second, .val (.int v34), .val (.long v35), .second, .val (.long v36), .second, .val (.long (0 : Int64)), .second, .val (.long v37), .second, .val (.long v38), .second, .val (.long v39), .second, .val (.long v41), .second, .val (.int v28), .unset, .unset, .unset, .unset] [(.int (3 : Int32))])) rfl (hb hby at_187) rfl (by decide) (cap := 3) (by decide) (by decide) (by decide) (by decide)
    obtain ⟨b149, g149⟩ : ∃ z, z = h0.size := ⟨_, rfl⟩
    rw [← g149] at A149 st149
    have g_b149 : n0 ≤ b149 := Nat.le_trans Z0 (Nat.le_of_eq g149.symm)
    have sz_b149 : h0.size ≤ b149 := Nat.le_trans K0.1 (Nat.le_of_eq g149.symm)
    have Z150 : n0 ≤ h149.size := Nat.le_trans Z0 E149.1
    have K151 : Keep h0 h149 [] := K0.ext E149
    obtain ⟨v42, hv42⟩ : ∃ z : Nat → Int64, z = (fun _ => (0 : Int64)) := ⟨_, rfl⟩
    have F152 : own_AJ Z h149 b149 .long 3 v42 := by rw [hv42]; exact own_AJ.new A149 rfl (by decide)
    obtain ⟨v43, hv43⟩ : ∃ z : Int64, z = (((1 : Int64) <<< (v32 &&& 0x3f).toInt64) - (1 : Int64)) := ⟨_, rfl⟩
    obtain ⟨_, _, ⟨T153, L153, k153, n153⟩, -, X153, ⟨Lc153, hQ153, l153, y153, z153⟩, st153⟩ := Jvm.LawKit.callS X149 hx (y := (⟨"com/example/canonic/canonic/RiceCodeDecodePinLaw", "put", "([JJI)V"⟩ : MethodName)) hown (mvT hZ (hw _ (List.mem_of_getElem? (i := 8) rfl))) (mvT hZ (hw _ (List.mem_of_getElem? (i := 9) rfl))) (mvT hZ (hw _ (List.mem_of_getElem? (i := 10) rfl))) (mvT hZ (hw _ (List.mem_of_getElem? (i := 11) rfl))) (by decide) (backOf (W := 0) (rmpt l Z a0 hw [] b149 v43 (0 : Int32) v42 h149 n0 Z150 F152 (by first | assumption | decide : ¬ ((0 : Int32) < (0 : Int32))) (by first | assumption | decide : (0 : Int32) < (192 : Int32)) g_b149) hZ (hw _ (List.mem_of_getElem? (i := 11) rfl)) (hw _ (List.mem_of_getElem? (i := 10) rfl)) (by decide) (by decide)) (g := (mkF m 210 #[.val (.long q0), .second, .val (.int p1), .val (.long q2), .second, .val (.long q3), .second, .val (.long q4), .second, .val (.long q5), .second, .val (.int (1 : Int32)), .val (.int v28), .val (.int v30), .val (.long v31), .second, .val (.int v32), .val (.long v33), .second, .val (.int v34), .val (.long v35), .second, .val (.long v36), .second, .val (.long (0 : Int64)), .second, .val (.long v37), .second, .val (.long v38), .second, .val (.long v39), .second, .val (.long v41), .second, .val (.int v28), .val (.ref b149), .val (.int (0 : Int32)), .unset, .unset] [(.int (0 : Int32)), (.long v43), (.ref b149)])) rfl (by rw [hml]; rfl) (argsL := [(.ref b149), (.long v43), (.int (0 : Int32))]) (rest := []) (lenOf pd11 rfl) rfl (by show 2 * 0 + _ ≤ _; exact Nat.le_of_eq rfl) (hb hby at_210) (fun _ _ => ⟨rfl, e149, (by decide : 1 + 0 ≤ _), (by decide : 3 + 0 ≤ _)⟩)
    dsimp only [Pt.U, Pt.locs, Pt.cells, Pt.slots] at X153 l153 y153 z153 st153 hQ153
    subst l153 y153 z153
    obtain ⟨rfl, N153q, K153q, F153_0⟩ := hQ153
    have Z154 : n0 ≤ T153.heap.size := Nat.le_trans Z150 K153q.1
    have K155 : Keep h0 T153.heap [] := K151.trans K153q (allS (Or.inr sz_b149) all0)
    obtain ⟨v44, hv44⟩ : ∃ z : Nat → Int64, z = (own_rput v42 v43 (0 : Int32)) := ⟨_, rfl⟩
    have F153_0n : own_AJ Z T153.heap b149 .long 3 v44 := by rw [hv44]; exact F153_0
    have N153 := Fr.app N148 N153q
    obtain ⟨v45, hv45⟩ : ∃ z : Int32, z = (((0 : Int32) + v32) + (1 : Int32)) := ⟨_, rfl⟩
    have ps1 := own_pos1 ok1 (show (0 : Int32).toInt = ((0 : Nat) : Int) from rfl) (by omega) hv45
    obtain ⟨_, _, ⟨T156, L156, k156, n156⟩, -, X156, ⟨Lc156, hQ156, l156, y156, z156⟩, st156⟩ := Jvm.LawKit.callS X153 hx (y := (⟨"com/example/canonic/canonic/RiceCodeDecodePinLaw", "put", "([JJI)V"⟩ : MethodName)) hown (mvT hZ (hw _ (List.mem_of_getElem? (i := 8) rfl))) (mvT hZ (hw _ (List.mem_of_getElem? (i := 9) rfl))) (mvT hZ (hw _ (List.mem_of_getElem? (i := 10) rfl))) (mvT hZ (hw _ (List.mem_of_getElem? (i := 11) rfl))) (by decide) (backOf (W := 0) (rmpt l Z a0 hw [] b149 v33 v45 v44 (T153.heap) n0 Z154 F153_0n ((own_in192 ps1 (by have y0 := own_okb ok1; omega)).1 : ¬ (v45 < (0 : Int32))) ((own_in192 ps1 (by have y0 := own_okb ok1; omega)).2 : v45 < (192 : Int32)) g_b149) hZ (hw _ (List.mem_of_getElem? (i := 11) rfl)) (hw _ (List.mem_of_getElem? (i := 10) rfl)) (by decide) (by decide)) (g := (mkF m 228 #[.val (.long q0), .second, .val (.int p1), .val (.long q2), .second, .val (.long q3), .second, .val (.long q4), .second, .val (.long q5), .second, .val (.int (1 : Int32)), .val (.int v28), .val (.int v30), .val (.long v31), .second, .val (.int v32), .val (.long v33), .second, .val (.int v34), .val (.long v35), .second, .val (.long v36), .second, .val (.long (0 : Int64)), .second, .val (.long v37), .second, .val (.long v38), .second, .val (.long v39), .second, .val (.long v41), .second, .val (.int v28), .val (.ref b149), .val (.int v45), .unset, .unset] [(.int v45), (.long v33), (.ref b149)])) rfl (by rw [hml]; rfl) (argsL := [(.ref b149), (.long v33), (.int v45)]) (rest := []) (lenOf pd11 rfl) rfl (by show 2 * 0 + _ ≤ _; exact Nat.le_of_eq rfl) (hb hby at_228) (fun _ _ => ⟨rfl, (rfl : T153.heap = T153.heap), (by decide : 1 + 0 ≤ _), (by decide : 3 + 0 ≤ _)⟩)
    dsimp only [Pt.U, Pt.locs, Pt.cells, Pt.slots] at X156 l156 y156 z156 st156 hQ156
    subst l156 y156 z156
    obtain ⟨rfl, N156q, K156q, F156_0⟩ := hQ156
    have Z157 : n0 ≤ T156.heap.size := Nat.le_trans Z154 K156q.1
    have K158 : Keep h0 T156.heap [] := K155.trans K156q (allS (Or.inr sz_b149) all0)
    obtain ⟨v46, hv46⟩ : ∃ z : Nat → Int64, z = (own_rput v44 v33 v45) := ⟨_, rfl⟩
    have F156_0n : own_AJ Z T156.heap b149 .long 3 v46 := by rw [hv46]; exact F156_0
    have N156 := Fr.app N153 N156q
    obtain ⟨v47, hv47⟩ : ∃ z : Int32, z = (v45 + v28) := ⟨_, rfl⟩
    have ps2 := own_pos2 ok1 ps1 (by omega) hv47
    obtain ⟨_, _, ⟨T159, L159, k159, n159⟩, -, X159, ⟨Lc159, hQ159, l159, y159, z159⟩, st159⟩ := Jvm.LawKit.callS X156 hx (y := (⟨"com/example/canonic/canonic/RiceCodeDecodePinLaw", "put", "([JJI)V"⟩ : MethodName)) hown (mvT hZ (hw _ (List.mem_of_getElem? (i := 8) rfl))) (mvT hZ (hw _ (List.mem_of_getElem? (i := 9) rfl))) (mvT hZ (hw _ (List.mem_of_getElem? (i := 10) rfl))) (mvT hZ (hw _ (List.mem_of_getElem? (i := 11) rfl))) (by decide) (backOf (W := 0) (rmpt l Z a0 hw [] b149 q5 v47 v46 (T156.heap) n0 Z157 F156_0n ((own_in192 ps2 (by have y0 := own_okb ok1; omega)).1 : ¬ (v47 < (0 : Int32))) ((own_in192 ps2 (by have y0 := own_okb ok1; omega)).2 : v47 < (192 : Int32)) g_b149) hZ (hw _ (List.mem_of_getElem? (i := 11) rfl)) (hw _ (List.mem_of_getElem? (i := 10) rfl)) (by decide) (by decide)) (g := (mkF m 288 #[.val (.long q0), .second, .val (.int p1), .val (.long q2), .second, .val (.long q3), .second, .val (.long q4), .second, .val (.long q5), .second, .val (.int (1 : Int32)), .val (.int v28), .val (.int v30), .val (.long v31), .second, .val (.int v32), .val (.long v33), .second, .val (.int v34), .val (.long v35), .second, .val (.long v36), .second, .val (.long (0 : Int64)), .second, .val (.long v37), .second, .val (.long v38), .second, .val (.long v39), .second, .val (.long v41), .second, .val (.int v28), .val (.ref b149), .val (.int v47), .unset, .unset] [(.int v47), (.long q5), (.ref b149)])) rfl (by rw [hml]; rfl) (argsL := [(.ref b149), (.long q5), (.int v47)]) (rest := []) (lenOf pd11 rfl) rfl (by show 2 * 0 + _ ≤ _; exact Nat.le_of_eq rfl) (hb hby at_288) (fun _ _ => ⟨rfl, (rfl : T156.heap = T156.heap), (by decide : 1 + 0 ≤ _), (by decide : 3 + 0 ≤ _)⟩)
    dsimp only [Pt.U, Pt.locs, Pt.cells, Pt.slots] at X159 l159 y159 z159 st159 hQ159
    subst l159 y159 z159
    obtain ⟨rfl, N159q, K159q, F159_0⟩ := hQ159
    have Z160 : n0 ≤ T159.heap.size := Nat.le_trans Z157 K159q.1
    have K161 : Keep h0 T159.heap [] := K158.trans K159q (allS (Or.inr sz_b149) all0)
    obtain ⟨v48, hv48⟩ : ∃ z : Nat → Int64, z = (own_rput v46 q5 v47) := ⟨_, rfl⟩
    have F159_0n : own_AJ Z T159.heap b149 .long 3 v48 := by rw [hv48]; exact F159_0
    have N159 := Fr.app N156 N159q
    obtain ⟨T162, h162, k162, X162, e162, E162, A162, st162⟩ := newP X159 hx hZ (hw _ (List.mem_of_getElem? (i := 12) rfl)) (rfl : T159.heap = T159.heap) (g := (mkF m 293 #[.val (.long q0), .second, .val (.int p1), .val (.long q2), .second, .val (.long q3), .second, .val (.long q4), .second, .val (.long q5), .second, .val (.int (1 : Int32)), .val (.int v28), .val (.int v30), .val (.long v31), .second, .val (.int v32), .val (.long v33), .second, .val (.int v34), .val (.long v35), .second, .val (.long v36), .second, .val (.long (0 : Int64)), .second, .val (.long v37), .second, .val (.long v38), .second, .val (.long v39), .second, .val (.long v41), .second, .val (.int v28), .val (.ref b149), .val (.int v47), .unset, .unset] [(.int (24 : Int32))])) rfl (hb hby at_293) rfl (by decide) (cap := 24) (by decide) (by decide) (by decide) (by decide)
    obtain ⟨b162, g162⟩ : ∃ z, z = T159.heap.size := ⟨_, rfl⟩
    rw [← g162] at A162 st162
    have ne_b149_b162 : b149 ≠ b162 := Nat.ne_of_lt (Nat.lt_of_lt_of_le F159_0n.lt (Nat.le_of_eq g162.symm))
    have g_b162 : n0 ≤ b162 := Nat.le_trans Z160 (Nat.le_of_eq g162.symm)
    have sz_b162 : h0.size ≤ b162 := Nat.le_trans K161.1 (Nat.le_of_eq g162.symm)
    have F163 := F159_0n.ext E162
    have Z164 : n0 ≤ h162.size := Nat.le_trans Z160 E162.1
    have K165 : Keep h0 h162 [] := K161.ext E162
    obtain ⟨v49, hv49⟩ : ∃ z : Nat → Int32, z = (fun _ => (0 : Int32)) := ⟨_, rfl⟩
    have F166 : own_AI Z h162 b162 .byte 24 v49 := by rw [hv49]; exact own_AI.new A162 rfl (by decide)
    have hin303_167 : ¬ (0 : Int32) < 0 ∧ (0 : Int32).toNatClampNeg < 3 := by decide
    obtain ⟨v50, hv50⟩ : ∃ z : Int64, z = (v48 0) := ⟨_, rfl⟩
    obtain ⟨_, _, ⟨T168, L168, k168, n168⟩, -, X168, ⟨Lc168, hQ168, l168, y168, z168⟩, st168⟩ := Jvm.LawKit.callS X162 hx (y := (⟨"com/example/canonic/canonic/RiceCodeDecodePinLaw", "put8", "([BIJ)V"⟩ : MethodName)) hown (mvT hZ (hw _ (List.mem_of_getElem? (i := 13) rfl))) (mvT hZ (hw _ (List.mem_of_getElem? (i := 14) rfl))) (mvT hZ (hw _ (List.mem_of_getElem? (i := 10) rfl))) (mvT hZ (hw _ (List.mem_of_getElem? (i := 15) rfl))) (by decide) (backOf (W := 0) (rmp8_0 l Z a0 hw [] b162 (0 : Int32) v50 v49 h162 n0 Z164 F166 (by first | assumption | decide : (0 : Int32) = (0 : Int32)) g_b162) hZ (hw _ (List.mem_of_getElem? (i := 15) rfl)) (hw _ (List.mem_of_getElem? (i := 10) rfl)) (by decide) (by decide)) (g := (mkF m 304 #[.val (.long q0), .second, .val (.int p1), .val (.long q2), .second, .val (.long q3), .second, .val (.long q4), .second, .val (.long q5), .second, .val (.int (1 : Int32)), .val (.int v28), .val (.int v30), .val (.long v31), .second, .val (.int v32), .val (.long v33), .second, .val (.int v34), .val (.long v35), .second, .val (.long v36), .second, .val (.long (0 : Int64)), .second, .val (.long v37), .second, .val (.long v38), .second, .val (.long v39), .second, .val (.long v41), .second, .val (.int v28), .val (.ref b149), .val (.int v47), .val (.ref b162), .unset] [(.long v50), (.int (0 : Int32)), (.ref b162)])) rfl (by rw [hml]; rfl) (argsL := [(.ref b162), (.int (0 : Int32)), (.long v50)]) (rest := []) (lenOf pd12 rfl) rfl (by show 2 * 0 + _ ≤ _; exact Nat.le_of_eq rfl) (hb hby at_304) (fun _ _ => ⟨rfl, e162, (by decide : 2 + 0 ≤ _), (by decide : 27 + 0 ≤ _)⟩)
    dsimp only [Pt.U, Pt.locs, Pt.cells, Pt.slots] at X168 l168 y168 z168 st168 hQ168
    subst l168 y168 z168
    obtain ⟨rfl, N168q, K168q, F168_0⟩ := hQ168
    have F169 := F163.keep K168q (ninS ne_b149_b162 nin0)
    have Z170 : n0 ≤ T168.heap.size := Nat.le_trans Z164 K168q.1
    have K171 : Keep h0 T168.heap [] := K165.trans K168q (allS (Or.inr sz_b162) all0)
    obtain ⟨v51, hv51⟩ : ∃ z : Nat → Int32, z = (own_up (own_up (own_up (own_up (own_up (own_up (own_up (own_up v49 0 (nar .byte ((v50.toInt32).toInt8.toInt32))) 1 (nar .byte ((((v50.toUInt64 >>> ((8 : Int32) &&& 0x3f).toInt64.toUInt64).toInt64).toInt32).toInt8.toInt32))) 2 (nar .byte ((((v50.toUInt64 >>> ((16 : Int32) &&& 0x3f).toInt64.toUInt64).toInt64).toInt32).toInt8.toInt32))) 3 (nar .byte ((((v50.toUInt64 >>> ((24 : Int32) &&& 0x3f).toInt64.toUInt64).toInt64).toInt32).toInt8.toInt32))) 4 (nar .byte ((((v50.toUInt64 >>> ((32 : Int32) &&& 0x3f).toInt64.toUInt64).toInt64).toInt32).toInt8.toInt32))) 5 (nar .byte ((((v50.toUInt64 >>> ((40 : Int32) &&& 0x3f).toInt64.toUInt64).toInt64).toInt32).toInt8.toInt32))) 6 (nar .byte ((((v50.toUInt64 >>> ((48 : Int32) &&& 0x3f).toInt64.toUInt64).toInt64).toInt32).toInt8.toInt32))) 7 (nar .byte ((((v50.toUInt64 >>> ((56 : Int32) &&& 0x3f).toInt64.toUInt64).toInt64).toInt32).toInt8.toInt32))) := ⟨_, rfl⟩
    have F168_0n : own_AI Z T168.heap b162 .byte 24 v51 := by rw [hv51]; exact F168_0
    have N168 := Fr.app N159 N168q
    have hin314_172 : ¬ (1 : Int32) < 0 ∧ (1 : Int32).toNatClampNeg < 3 := by decide
    obtain ⟨v52, hv52⟩ : ∃ z : Int64, z = (v48 1) := ⟨_, rfl⟩
    obtain ⟨_, _, ⟨T173, L173, k173, n173⟩, -, X173, ⟨Lc173, hQ173, l173, y173, z173⟩, st173⟩ := Jvm.LawKit.callS X168 hx (y := (⟨"com/example/canonic/canonic/RiceCodeDecodePinLaw", "put8", "([BIJ)V"⟩ : MethodName)) hown (mvT hZ (hw _ (List.mem_of_getElem? (i := 13) rfl))) (mvT hZ (hw _ (List.mem_of_getElem? (i := 14) rfl))) (mvT hZ (hw _ (List.mem_of_getElem? (i := 10) rfl))) (mvT hZ (hw _ (List.mem_of_getElem? (i := 15) rfl))) (by decide) (backOf (W := 0) (rmp8_8 l Z a0 hw [] b162 (8 : Int32) v52 v51 (T168.heap) n0 Z170 F168_0n (by first | assumption | decide : (8 : Int32) = (8 : Int32)) g_b162) hZ (hw _ (List.mem_of_getElem? (i := 15) rfl)) (hw _ (List.mem_of_getElem? (i := 10) rfl)) (by decide) (by decide)) (g := (mkF m 315 #[.val (.long q0), .second, .val (.int p1), .val (.long q2), .second, .val (.long q3), .second, .val (.long q4), .second, .val (.long q5), .second, .val (.int (1 : Int32)), .val (.int v28), .val (.int v30), .val (.long v31), .second, .val (.int v32), .val (.long v33), .second, .val (.int v34), .val (.long v35), .second, .val (.long v36), .second, .val (.long (0 : Int64)), .second, .val (.long v37), .second, .val (.long v38), .second, .val (.long v39), .second, .val (.long v41), .second, .val (.int v28), .val (.ref b149), .val (.int v47), .val (.ref b162), .unset] [(.long v52), (.int (8 : Int32)), (.ref b162)])) rfl (by rw [hml]; rfl) (argsL := [(.ref b162), (.int (8 : Int32)), (.long v52)]) (rest := []) (lenOf pd12 rfl) rfl (by show 2 * 0 + _ ≤ _; exact Nat.le_of_eq rfl) (hb hby at_315) (fun _ _ => ⟨rfl, (rfl : T168.heap = T168.heap), (by decide : 2 + 0 ≤ _), (by decide : 27 + 0 ≤ _)⟩)
    dsimp only [Pt.U, Pt.locs, Pt.cells, Pt.slots] at X173 l173 y173 z173 st173 hQ173
    subst l173 y173 z173
    obtain ⟨rfl, N173q, K173q, F173_0⟩ := hQ173
    have F174 := F169.keep K173q (ninS ne_b149_b162 nin0)
    have Z175 : n0 ≤ T173.heap.size := Nat.le_trans Z170 K173q.1
    have K176 : Keep h0 T173.heap [] := K171.trans K173q (allS (Or.inr sz_b162) all0)
    obtain ⟨v53, hv53⟩ : ∃ z : Nat → Int32, z = (own_up (own_up (own_up (own_up (own_up (own_up (own_up (own_up v51 8 (nar .byte ((v52.toInt32).toInt8.toInt32))) 9 (nar .byte ((((v52.toUInt64 >>> ((8 : Int32) &&& 0x3f).toInt64.toUInt64).toInt64).toInt32).toInt8.toInt32))) 10 (nar .byte ((((v52.toUInt64 >>> ((16 : Int32) &&& 0x3f).toInt64.toUInt64).toInt64).toInt32).toInt8.toInt32))) 11 (nar .byte ((((v52.toUInt64 >>> ((24 : Int32) &&& 0x3f).toInt64.toUInt64).toInt64).toInt32).toInt8.toInt32))) 12 (nar .byte ((((v52.toUInt64 >>> ((32 : Int32) &&& 0x3f).toInt64.toUInt64).toInt64).toInt32).toInt8.toInt32))) 13 (nar .byte ((((v52.toUInt64 >>> ((40 : Int32) &&& 0x3f).toInt64.toUInt64).toInt64).toInt32).toInt8.toInt32))) 14 (nar .byte ((((v52.toUInt64 >>> ((48 : Int32) &&& 0x3f).toInt64.toUInt64).toInt64).toInt32).toInt8.toInt32))) 15 (nar .byte ((((v52.toUInt64 >>> ((56 : Int32) &&& 0x3f).toInt64.toUInt64).toInt64).toInt32).toInt8.toInt32))) := ⟨_, rfl⟩
    have F173_0n : own_AI Z T173.heap b162 .byte 24 v53 := by rw [hv53]; exact F173_0
    have N173 := Fr.app N168 N173q
    have hin325_177 : ¬ (2 : Int32) < 0 ∧ (2 : Int32).toNatClampNeg < 3 := by decide
    obtain ⟨v54, hv54⟩ : ∃ z : Int64, z = (v48 2) := ⟨_, rfl⟩
    obtain ⟨_, _, ⟨T178, L178, k178, n178⟩, -, X178, ⟨Lc178, hQ178, l178, y178, z178⟩, st178⟩ := Jvm.LawKit.callS X173 hx (y := (⟨"com/example/canonic/canonic/RiceCodeDecodePinLaw", "put8", "([BIJ)V"⟩ : MethodName)) hown (mvT hZ (hw _ (List.mem_of_getElem? (i := 13) rfl))) (mvT hZ (hw _ (List.mem_of_getElem? (i := 14) rfl))) (mvT hZ (hw _ (List.mem_of_getElem? (i := 10) rfl))) (mvT hZ (hw _ (List.mem_of_getElem? (i := 15) rfl))) (by decide) (backOf (W := 0) (rmp8_16 l Z a0 hw [] b162 (16 : Int32) v54 v53 (T173.heap) n0 Z175 F173_0n (by first | assumption | decide : (16 : Int32) = (16 : Int32)) g_b162) hZ (hw _ (List.mem_of_getElem? (i := 15) rfl)) (hw _ (List.mem_of_getElem? (i := 10) rfl)) (by decide) (by decide)) (g := (mkF m 326 #[.val (.long q0), .second, .val (.int p1), .val (.long q2), .second, .val (.long q3), .second, .val (.long q4), .second, .val (.long q5), .second, .val (.int (1 : Int32)), .val (.int v28), .val (.int v30), .val (.long v31), .second, .val (.int v32), .val (.long v33), .second, .val (.int v34), .val (.long v35), .second, .val (.long v36), .second, .val (.long (0 : Int64)), .second, .val (.long v37), .second, .val (.long v38), .second, .val (.long v39), .second, .val (.long v41), .second, .val (.int v28), .val (.ref b149), .val (.int v47), .val (.ref b162), .unset] [(.long v54), (.int (16 : Int32)), (.ref b162)])) rfl (by rw [hml]; rfl) (argsL := [(.ref b162), (.int (16 : Int32)), (.long v54)]) (rest := []) (lenOf pd12 rfl) rfl (by show 2 * 0 + _ ≤ _; exact Nat.le_of_eq rfl) (hb hby at_326) (fun _ _ => ⟨rfl, (rfl : T173.heap = T173.heap), (by decide : 2 + 0 ≤ _), (by decide : 27 + 0 ≤ _)⟩)
    dsimp only [Pt.U, Pt.locs, Pt.cells, Pt.slots] at X178 l178 y178 z178 st178 hQ178
    subst l178 y178 z178
    obtain ⟨rfl, N178q, K178q, F178_0⟩ := hQ178
    have F179 := F174.keep K178q (ninS ne_b149_b162 nin0)
    have Z180 : n0 ≤ T178.heap.size := Nat.le_trans Z175 K178q.1
    have K181 : Keep h0 T178.heap [] := K176.trans K178q (allS (Or.inr sz_b162) all0)
    obtain ⟨v55, hv55⟩ : ∃ z : Nat → Int32, z = (own_up (own_up (own_up (own_up (own_up (own_up (own_up (own_up v53 16 (nar .byte ((v54.toInt32).toInt8.toInt32))) 17 (nar .byte ((((v54.toUInt64 >>> ((8 : Int32) &&& 0x3f).toInt64.toUInt64).toInt64).toInt32).toInt8.toInt32))) 18 (nar .byte ((((v54.toUInt64 >>> ((16 : Int32) &&& 0x3f).toInt64.toUInt64).toInt64).toInt32).toInt8.toInt32))) 19 (nar .byte ((((v54.toUInt64 >>> ((24 : Int32) &&& 0x3f).toInt64.toUInt64).toInt64).toInt32).toInt8.toInt32))) 20 (nar .byte ((((v54.toUInt64 >>> ((32 : Int32) &&& 0x3f).toInt64.toUInt64).toInt64).toInt32).toInt8.toInt32))) 21 (nar .byte ((((v54.toUInt64 >>> ((40 : Int32) &&& 0x3f).toInt64.toUInt64).toInt64).toInt32).toInt8.toInt32))) 22 (nar .byte ((((v54.toUInt64 >>> ((48 : Int32) &&& 0x3f).toInt64.toUInt64).toInt64).toInt32).toInt8.toInt32))) 23 (nar .byte ((((v54.toUInt64 >>> ((56 : Int32) &&& 0x3f).toInt64.toUInt64).toInt64).toInt32).toInt8.toInt32))) := ⟨_, rfl⟩
    have F178_0n : own_AI Z T178.heap b162 .byte 24 v55 := by rw [hv55]; exact F178_0
    have N178 := Fr.app N173 N178q
    have HB : own_bytes (own_W v48) v55 := own_mkb hv50 hv52 hv54 hv51 hv53 hv55
    have en1 := own_W1 ok1 hv42 hv43 ps1 ps2 hv44 hv46 hv48
    have S1 : (v37 + (((v32.toInt64) <<< (v28 &&& 0x3f).toInt64) ||| ((v33.toInt32).toInt64))) = v38 := by rw [own_r32 ok1, ← hv36, ← hv38]
    obtain ⟨_, _, ⟨T182, L182, k182, n182⟩, -, X182, ⟨Lc182, hQ182, l182, y182, z182⟩, st182⟩ := Jvm.LawKit.callS X178 hx (y := (⟨"com/example/canonic/canonic/RiceCode", "decode", "(JII[BJ)[I"⟩ : MethodName)) hown (mvT hZ (hw _ (List.mem_of_getElem? (i := 16) rfl))) (mvT hZ (hw _ (List.mem_of_getElem? (i := 17) rfl))) (mvT hZ (hw _ (List.mem_of_getElem? (i := 18) rfl))) (mvT hZ (hw _ (List.mem_of_getElem? (i := 19) rfl))) (by decide) (backOf (W := 0) (rmdc1 l Z a0 hw [] v37 v28 (1 : Int32) b162 v41 v55 (own_W v48) (v28.toInt.toNat) (v32.toInt.toNat) (v32.toInt64) (v33.toInt32) (T178.heap) n0 Z180 F178_0n (HB : own_bytes (own_W v48) v55) (fs0 : ¬ (v37 < (0 : Int64))) (fs1 : ¬ (v41 < v37)) (ok1.1 : v28.toInt = ((v28.toInt.toNat) : Int)) (ok1.2.2.1 : 2 ≤ (v28.toInt.toNat)) (ok1.2.2.2.1 : (v28.toInt.toNat) ≤ 28) ((by have y0 := own_okb ok1; omega) : (0 + (v32.toInt.toNat) + 1 + (v28.toInt.toNat)) ≤ 192) (en1.1 : (own_W v48) / 2 ^ 0 % 2 ^ ((v32.toInt.toNat) + 1) = 2 ^ (v32.toInt.toNat) - 1) ((by rw [en1.2]; exact own_r32i ok1) : (v33.toInt32).toInt = (((own_W v48) / 2 ^ (0 + (v32.toInt.toNat) + 1) % 2 ^ (v28.toInt.toNat) : Nat) : Int)) (own_okL ok1 : (v32.toInt64).toBitVec.toNat = (v32.toInt.toNat)) ((by rw [S1]; exact fs2) : ¬ (v41 < (v37 + (((v32.toInt64) <<< (v28 &&& 0x3f).toInt64) ||| ((v33.toInt32).toInt64))))) (by first | assumption | decide : (1 : Int32) = (1 : Int32))) hZ (hw _ (List.mem_of_getElem? (i := 19) rfl)) (hw _ (List.mem_of_getElem? (i := 18) rfl)) (by decide) (by decide)) (g := (mkF m 339 #[.val (.long q0), .second, .val (.int p1), .val (.long q2), .second, .val (.long q3), .second, .val (.long q4), .second, .val (.long q5), .second, .val (.int (1 : Int32)), .val (.int v28), .val (.int v30), .val (.long v31), .second, .val (.int v32), .val (.long v33), .second, .val (.int v34), .val (.long v35), .second, .val (.long v36), .second, .val (.long (0 : Int64)), .second, .val (.long v37), .second, .val (.long v38), .second, .val (.long v39), .second, .val (.long v41), .second, .val (.int v28), .val (.ref b149), .val (.int v47), .val (.ref b162), .unset] [(.long v41), (.ref b162), (.int (1 : Int32)), (.int v28), (.long v37)])) rfl (by rw [hml]; rfl) (argsL := [(.long v37), (.int v28), (.int (1 : Int32)), (.ref b162), (.long v41)]) (rest := []) (lenOf pd13 rfl) rfl (by show 2 * 0 + _ ≤ _; exact Nat.le_of_eq rfl) (hb hby at_339) (fun _ _ => ⟨rfl, (rfl : T178.heap = T178.heap), (by decide : 2 + 2 ≤ _), (by decide : 27 + 6 ≤ _)⟩)
    dsimp only [Pt.U, Pt.locs, Pt.cells, Pt.slots] at X182 l182 y182 z182 st182 hQ182
    subst l182 y182 z182
    obtain ⟨b182_0, rfl, N182q, K182q, F182_0, F182_1⟩ := hQ182
    have F183 := F179.keep K182q nin0
    have F184 := F178_0n.keep K182q nin0
    have Z185 : n0 ≤ T182.heap.size := Nat.le_trans Z180 K182q.1
    have K186 : Keep h0 T182.heap [] := K181.trans K182q all0
    have g_b182_0 : n0 ≤ b182_0 := Nat.le_trans Z180 F182_0
    have sz_b182_0 : h0.size ≤ b182_0 := Nat.le_trans K181.1 F182_0
    have ne_b149_b182_0 : b149 ≠ b182_0 := Nat.ne_of_lt (Nat.lt_of_lt_of_le F179.lt F182_0)
    have ne_b162_b182_0 : b162 ≠ b182_0 := Nat.ne_of_lt (Nat.lt_of_lt_of_le F178_0n.lt F182_0)
    obtain ⟨v56, hv56⟩ : ∃ z : Nat → Int32, z = (own_up (own_up (fun _ => (0 : Int32)) 0 (v37.toInt32)) 1 ((v37 + (((v32.toInt64) <<< (v28 &&& 0x3f).toInt64) ||| ((v33.toInt32).toInt64))).toInt32)) := ⟨_, rfl⟩
    have F182_1n : own_AI Z T182.heap b182_0 .int 2 v56 := by rw [hv56]; exact F182_1
    have N182 := Fr.app N178 N182q
    have hin359_187 : ¬ (0 : Int32) < 0 ∧ (0 : Int32).toNatClampNeg < 2 := by decide
    have hin377_188 : ¬ (1 : Int32) < 0 ∧ (1 : Int32).toNatClampNeg < 2 := by decide
    have hgo189 : ∀ t, Steps p.tables e below (T182.setTop (mkF m 405 #[.val (.long q0), .second, .val (.int p1), .val (.long q2), .second, .val (.long q3), .second, .val (.long q4), .second, .val (.long q5), .second, .val (.int (1 : Int32)), .val (.int v28), .val (.int v30), .val (.long v31), .second, .val (.int v32), .val (.long v33), .second, .val (.int v34), .val (.long v35), .second, .val (.long v36), .second, .val (.long (0 : Int64)), .second, .val (.long v37), .second, .val (.long v38), .second, .val (.long v39), .second, .val (.long v41), .second, .val (.int v28), .val (.ref b149), .val (.int v47), .val (.ref b162), .val (.ref b182_0)] [(.int (1 : Int32))])) t → Steps p.tables e below (s₁.setTop (mkF m 8 #[.val (.long q0), .second, .val (.int p1), .val (.long q2), .second, .val (.long q3), .second, .val (.long q4), .second, .val (.long q5), .second, .val (.int v1), .unset, .unset, .unset, .unset, .unset, .unset, .unset, .unset, .unset, .unset, .unset, .unset, .unset, .unset, .unset, .unset, .unset, .unset, .unset, .unset, .unset, .unset, .unset, .unset, .unset, .unset, .unset] [])) t := by
      intro t kt
      show Steps p.tables e below (s₁.setTop (mkF m 8 #[.val (.long q0), .second, .val (.int p1), .val (.long q2), .second, .val (.long q3), .second, .val (.long q4), .second, .val (.long q5), .second, .val (.int v1), .unset, .unset, .unset, .unset, .unset, .unset, .unset, .unset, .unset, .unset, .unset, .unset, .unset, .unset, .unset, .unset, .unset, .unset, .unset, .unset, .unset, .unset, .unset, .unset, .unset, .unset, .unset] [])) _
      rw [hs8_27]
      show Steps p.tables e below (s₁.setTop (mkF m 8 #[.val (.long q0), .second, .val (.int p1), .val (.long q2), .second, .val (.long q3), .second, .val (.long q4), .second, .val (.long q5), .second, .val (.int (1 : Int32)), .unset, .unset, .unset, .unset, .unset, .unset, .unset, .unset, .unset, .unset, .unset, .unset, .unset, .unset, .unset, .unset, .unset, .unset, .unset, .unset, .unset, .unset, .unset, .unset, .unset, .unset, .unset] [])) _
      refine XS.iconst X0.here hx rfl (hb hby at_8) ?_
      refine XS.iloadN X0.here hx rfl (hb hby at_9) rfl ?_
      refine XS.iconst X0.here hx rfl (hb hby at_10) ?_
      show Steps p.tables e below (s₁.setTop (mkF m 11 #[.val (.long q0), .second, .val (.int p1), .val (.long q2), .second, .val (.long q3), .second, .val (.long q4), .second, .val (.long q5), .second, .val (.int (1 : Int32)), .unset, .unset, .unset, .unset, .unset, .unset, .unset, .unset, .unset, .unset, .unset, .unset, .unset, .unset, .unset, .unset, .unset, .unset, .unset, .unset, .unset, .unset, .unset, .unset, .unset, .unset, .unset] [(.int (2 : Int32)), (.int p1), (.int (2 : Int32))])) _
      refine XS.iushr X0.here hx rfl (hb hby at_11) rfl ?_
      show Steps p.tables e below (s₁.setTop (mkF m 12 #[.val (.long q0), .second, .val (.int p1), .val (.long q2), .second, .val (.long q3), .second, .val (.long q4), .second, .val (.long q5), .second, .val (.int (1 : Int32)), .unset, .unset, .unset, .unset, .unset, .unset, .unset, .unset, .unset, .unset, .unset, .unset, .unset, .unset, .unset, .unset, .unset, .unset, .unset, .unset, .unset, .unset, .unset, .unset, .unset, .unset, .unset] [(.int ((p1.toUInt32 >>> ((2 : Int32) &&& 31).toUInt32).toInt32)), (.int (2 : Int32))])) _
      refine XS.bipush X0.here hx rfl (hb hby at_12) ?_
      show Steps p.tables e below (s₁.setTop (mkF m 14 #[.val (.long q0), .second, .val (.int p1), .val (.long q2), .second, .val (.long q3), .second, .val (.long q4), .second, .val (.long q5), .second, .val (.int (1 : Int32)), .unset, .unset, .unset, .unset, .unset, .unset, .unset, .unset, .unset, .unset, .unset, .unset, .unset, .unset, .unset, .unset, .unset, .unset, .unset, .unset, .unset, .unset, .unset, .unset, .unset, .unset, .unset] [(.int (27 : Int32)), (.int ((p1.toUInt32 >>> ((2 : Int32) &&& 31).toUInt32).toInt32)), (.int (2 : Int32))])) _
      refine XS.irem X0.here hx rfl (hb hby at_14) rfl hnz14_143 ?_
      rw [own_remI ((p1.toUInt32 >>> ((2 : Int32) &&& 31).toUInt32).toInt32) (27 : Int32)]
      show Steps p.tables e below (s₁.setTop (mkF m 15 #[.val (.long q0), .second, .val (.int p1), .val (.long q2), .second, .val (.long q3), .second, .val (.long q4), .second, .val (.long q5), .second, .val (.int (1 : Int32)), .unset, .unset, .unset, .unset, .unset, .unset, .unset, .unset, .unset, .unset, .unset, .unset, .unset, .unset, .unset, .unset, .unset, .unset, .unset, .unset, .unset, .unset, .unset, .unset, .unset, .unset, .unset] [(.int (((p1.toUInt32 >>> ((2 : Int32) &&& 31).toUInt32).toInt32) % (27 : Int32))), (.int (2 : Int32))])) _
      refine XS.iadd X0.here hx rfl (hb hby at_15) rfl ?_
      show Steps p.tables e below (s₁.setTop (mkF m 16 #[.val (.long q0), .second, .val (.int p1), .val (.long q2), .second, .val (.long q3), .second, .val (.long q4), .second, .val (.long q5), .second, .val (.int (1 : Int32)), .unset, .unset, .unset, .unset, .unset, .unset, .unset, .unset, .unset, .unset, .unset, .unset, .unset, .unset, .unset, .unset, .unset, .unset, .unset, .unset, .unset, .unset, .unset, .unset, .unset, .unset, .unset] [(.int ((2 : Int32) + (((p1.toUInt32 >>> ((2 : Int32) &&& 31).toUInt32).toInt32) % (27 : Int32))))])) _
      rw [← hv28]
      show Steps p.tables e below (s₁.setTop (mkF m 16 #[.val (.long q0), .second, .val (.int p1), .val (.long q2), .second, .val (.long q3), .second, .val (.long q4), .second, .val (.long q5), .second, .val (.int (1 : Int32)), .unset, .unset, .unset, .unset, .unset, .unset, .unset, .unset, .unset, .unset, .unset, .unset, .unset, .unset, .unset, .unset, .unset, .unset, .unset, .unset, .unset, .unset, .unset, .unset, .unset, .unset, .unset] [(.int v28)])) _
      refine XS.istore X0.here hx rfl (hb hby at_16) rfl (l' := #[.val (.long q0), .second, .val (.int p1), .val (.long q2), .second, .val (.long q3), .second, .val (.long q4), .second, .val (.long q5), .second, .val (.int (1 : Int32)), .val (.int v28), .unset, .unset, .unset, .unset, .unset, .unset, .unset, .unset, .unset, .unset, .unset, .unset, .unset, .unset, .unset, .unset, .unset, .unset, .unset, .unset, .unset, .unset, .unset, .unset, .unset, .unset]) rfl ?_
      show Steps p.tables e below (s₁.setTop (mkF m 18 #[.val (.long q0), .second, .val (.int p1), .val (.long q2), .second, .val (.long q3), .second, .val (.long q4), .second, .val (.long q5), .second, .val (.int (1 : Int32)), .val (.int v28), .unset, .unset, .unset, .unset, .unset, .unset, .unset, .unset, .unset, .unset, .unset, .unset, .unset, .unset, .unset, .unset, .unset, .unset, .unset, .unset, .unset, .unset, .unset, .unset, .unset, .unset] [])) _
      refine XS.iload X0.here hx rfl (hb hby at_18) rfl ?_
      refine XS.bipush X0.here hx rfl (hb hby at_20) ?_
      show Steps p.tables e below (s₁.setTop (mkF m 22 #[.val (.long q0), .second, .val (.int p1), .val (.long q2), .second, .val (.long q3), .second, .val (.long q4), .second, .val (.long q5), .second, .val (.int (1 : Int32)), .val (.int v28), .unset, .unset, .unset, .unset, .unset, .unset, .unset, .unset, .unset, .unset, .unset, .unset, .unset, .unset, .unset, .unset, .unset, .unset, .unset, .unset, .unset, .unset, .unset, .unset, .unset, .unset] [(.int (25 : Int32)), (.int v28)])) _
      refine st146 _ ?_
      show Steps p.tables e below (T146.setTop (mkF m 39 #[.val (.long q0), .second, .val (.int p1), .val (.long q2), .second, .val (.long q3), .second, .val (.long q4), .second, .val (.long q5), .second, .val (.int (1 : Int32)), .val (.int v28), .unset, .unset, .unset, .unset, .unset, .unset, .unset, .unset, .unset, .unset, .unset, .unset, .unset, .unset, .unset, .unset, .unset, .unset, .unset, .unset, .unset, .unset, .unset, .unset, .unset, .unset] [(.int v30)])) _
      refine XS.istore X146.here hx rfl (hb hby at_39) rfl (l' := #[.val (.long q0), .second, .val (.int p1), .val (.long q2), .second, .val (.long q3), .second, .val (.long q4), .second, .val (.long q5), .second, .val (.int (1 : Int32)), .val (.int v28), .val (.int v30), .unset, .unset, .unset, .unset, .unset, .unset, .unset, .unset, .unset, .unset, .unset, .unset, .unset, .unset, .unset, .unset, .unset, .unset, .unset, .unset, .unset, .unset, .unset, .unset, .unset]) rfl ?_
      show Steps p.tables e below (T146.setTop (mkF m 41 #[.val (.long q0), .second, .val (.int p1), .val (.long q2), .second, .val (.long q3), .second, .val (.long q4), .second, .val (.long q5), .second, .val (.int (1 : Int32)), .val (.int v28), .val (.int v30), .unset, .unset, .unset, .unset, .unset, .unset, .unset, .unset, .unset, .unset, .unset, .unset, .unset, .unset, .unset, .unset, .unset, .unset, .unset, .unset, .unset, .unset, .unset, .unset, .unset] [])) _
      refine XS.lconst X146.here hx rfl (hb hby at_41) ?_
      refine XS.iload X146.here hx rfl (hb hby at_42) rfl ?_
      refine XS.lshl X146.here hx rfl (hb hby at_44) rfl ?_
      show Steps p.tables e below (T146.setTop (mkF m 45 #[.val (.long q0), .second, .val (.int p1), .val (.long q2), .second, .val (.long q3), .second, .val (.long q4), .second, .val (.long q5), .second, .val (.int (1 : Int32)), .val (.int v28), .val (.int v30), .unset, .unset, .unset, .unset, .unset, .unset, .unset, .unset, .unset, .unset, .unset, .unset, .unset, .unset, .unset, .unset, .unset, .unset, .unset, .unset, .unset, .unset, .unset, .unset, .unset] [(.long ((1 : Int64) <<< (v28 &&& 0x3f).toInt64))])) _
      refine XS.lconst X146.here hx rfl (hb hby at_45) ?_
      refine XS.lsub X146.here hx rfl (hb hby at_46) rfl ?_
      show Steps p.tables e below (T146.setTop (mkF m 47 #[.val (.long q0), .second, .val (.int p1), .val (.long q2), .second, .val (.long q3), .second, .val (.long q4), .second, .val (.long q5), .second, .val (.int (1 : Int32)), .val (.int v28), .val (.int v30), .unset, .unset, .unset, .unset, .unset, .unset, .unset, .unset, .unset, .unset, .unset, .unset, .unset, .unset, .unset, .unset, .unset, .unset, .unset, .unset, .unset, .unset, .unset, .unset, .unset] [(.long (((1 : Int64) <<< (v28 &&& 0x3f).toInt64) - (1 : Int64)))])) _
      rw [← hv31]
      show Steps p.tables e below (T146.setTop (mkF m 47 #[.val (.long q0), .second, .val (.int p1), .val (.long q2), .second, .val (.long q3), .second, .val (.long q4), .second, .val (.long q5), .second, .val (.int (1 : Int32)), .val (.int v28), .val (.int v30), .unset, .unset, .unset, .unset, .unset, .unset, .unset, .unset, .unset, .unset, .unset, .unset, .unset, .unset, .unset, .unset, .unset, .unset, .unset, .unset, .unset, .unset, .unset, .unset, .unset] [(.long v31)])) _
      refine XS.lstore X146.here hx rfl (hb hby at_47) rfl (l' := #[.val (.long q0), .second, .val (.int p1), .val (.long q2), .second, .val (.long q3), .second, .val (.long q4), .second, .val (.long q5), .second, .val (.int (1 : Int32)), .val (.int v28), .val (.int v30), .val (.long v31), .second, .unset, .unset, .unset, .unset, .unset, .unset, .unset, .unset, .unset, .unset, .unset, .unset, .unset, .unset, .unset, .unset, .unset, .unset, .unset, .unset, .unset, .unset, .unset]) rfl ?_
      show Steps p.tables e below (T146.setTop (mkF m 49 #[.val (.long q0), .second, .val (.int p1), .val (.long q2), .second, .val (.long q3), .second, .val (.long q4), .second, .val (.long q5), .second, .val (.int (1 : Int32)), .val (.int v28), .val (.int v30), .val (.long v31), .second, .unset, .unset, .unset, .unset, .unset, .unset, .unset, .unset, .unset, .unset, .unset, .unset, .unset, .unset, .unset, .unset, .unset, .unset, .unset, .unset, .unset, .unset, .unset] [])) _
      refine XS.lloadN X146.here hx rfl (hb hby at_49) rfl ?_
      refine XS.iload X146.here hx rfl (hb hby at_50) rfl ?_
      refine XS.i2l X146.here hx rfl (hb hby at_52) rfl ?_
      show Steps p.tables e below (T146.setTop (mkF m 53 #[.val (.long q0), .second, .val (.int p1), .val (.long q2), .second, .val (.long q3), .second, .val (.long q4), .second, .val (.long q5), .second, .val (.int (1 : Int32)), .val (.int v28), .val (.int v30), .val (.long v31), .second, .unset, .unset, .unset, .unset, .unset, .unset, .unset, .unset, .unset, .unset, .unset, .unset, .unset, .unset, .unset, .unset, .unset, .unset, .unset, .unset, .unset, .unset, .unset] [(.long (v30.toInt64)), (.long q2)])) _
      refine XS.land X146.here hx rfl (hb hby at_53) rfl ?_
      show Steps p.tables e below (T146.setTop (mkF m 54 #[.val (.long q0), .second, .val (.int p1), .val (.long q2), .second, .val (.long q3), .second, .val (.long q4), .second, .val (.long q5), .second, .val (.int (1 : Int32)), .val (.int v28), .val (.int v30), .val (.long v31), .second, .unset, .unset, .unset, .unset, .unset, .unset, .unset, .unset, .unset, .unset, .unset, .unset, .unset, .unset, .unset, .unset, .unset, .unset, .unset, .unset, .unset, .unset, .unset] [(.long (q2 &&& (v30.toInt64)))])) _
      refine XS.l2i X146.here hx rfl (hb hby at_54) rfl ?_
      show Steps p.tables e below (T146.setTop (mkF m 55 #[.val (.long q0), .second, .val (.int p1), .val (.long q2), .second, .val (.long q3), .second, .val (.long q4), .second, .val (.long q5), .second, .val (.int (1 : Int32)), .val (.int v28), .val (.int v30), .val (.long v31), .second, .unset, .unset, .unset, .unset, .unset, .unset, .unset, .unset, .unset, .unset, .unset, .unset, .unset, .unset, .unset, .unset, .unset, .unset, .unset, .unset, .unset, .unset, .unset] [(.int ((q2 &&& (v30.toInt64)).toInt32))])) _
      rw [← hv32]
      show Steps p.tables e below (T146.setTop (mkF m 55 #[.val (.long q0), .second, .val (.int p1), .val (.long q2), .second, .val (.long q3), .second, .val (.long q4), .second, .val (.long q5), .second, .val (.int (1 : Int32)), .val (.int v28), .val (.int v30), .val (.long v31), .second, .unset, .unset, .unset, .unset, .unset, .unset, .unset, .unset, .unset, .unset, .unset, .unset, .unset, .unset, .unset, .unset, .unset, .unset, .unset, .unset, .unset, .unset, .unset] [(.int v32)])) _
      refine XS.istore X146.here hx rfl (hb hby at_55) rfl (l' := #[.val (.long q0), .second, .val (.int p1), .val (.long q2), .second, .val (.long q3), .second, .val (.long q4), .second, .val (.long q5), .second, .val (.int (1 : Int32)), .val (.int v28), .val (.int v30), .val (.long v31), .second, .val (.int v32), .unset, .unset, .unset, .unset, .unset, .unset, .unset, .unset, .unset, .unset, .unset, .unset, .unset, .unset, .unset, .unset, .unset, .unset, .unset, .unset, .unset, .unset]) rfl ?_
      show Steps p.tables e below (T146.setTop (mkF m 57 #[.val (.long q0), .second, .val (.int p1), .val (.long q2), .second, .val (.long q3), .second, .val (.long q4), .second, .val (.long q5), .second, .val (.int (1 : Int32)), .val (.int v28), .val (.int v30), .val (.long v31), .second, .val (.int v32), .unset, .unset, .unset, .unset, .unset, .unset, .unset, .unset, .unset, .unset, .unset, .unset, .unset, .unset, .unset, .unset, .unset, .unset, .unset, .unset, .unset, .unset] [])) _
      refine XS.lloadN X146.here hx rfl (hb hby at_57) rfl ?_
      refine XS.bipush X146.here hx rfl (hb hby at_58) ?_
      refine XS.lushr X146.here hx rfl (hb hby at_60) rfl ?_
      show Steps p.tables e below (T146.setTop (mkF m 61 #[.val (.long q0), .second, .val (.int p1), .val (.long q2), .second, .val (.long q3), .second, .val (.long q4), .second, .val (.long q5), .second, .val (.int (1 : Int32)), .val (.int v28), .val (.int v30), .val (.long v31), .second, .val (.int v32), .unset, .unset, .unset, .unset, .unset, .unset, .unset, .unset, .unset, .unset, .unset, .unset, .unset, .unset, .unset, .unset, .unset, .unset, .unset, .unset, .unset, .unset] [(.long ((q2.toUInt64 >>> ((6 : Int32) &&& 0x3f).toInt64.toUInt64).toInt64))])) _
      refine XS.lload X146.here hx rfl (hb hby at_61) rfl ?_
      refine XS.land X146.here hx rfl (hb hby at_63) rfl ?_
      show Steps p.tables e below (T146.setTop (mkF m 64 #[.val (.long q0), .second, .val (.int p1), .val (.long q2), .second, .val (.long q3), .second, .val (.long q4), .second, .val (.long q5), .second, .val (.int (1 : Int32)), .val (.int v28), .val (.int v30), .val (.long v31), .second, .val (.int v32), .unset, .unset, .unset, .unset, .unset, .unset, .unset, .unset, .unset, .unset, .unset, .unset, .unset, .unset, .unset, .unset, .unset, .unset, .unset, .unset, .unset, .unset] [(.long (((q2.toUInt64 >>> ((6 : Int32) &&& 0x3f).toInt64.toUInt64).toInt64) &&& v31))])) _
      rw [← hv33]
      show Steps p.tables e below (T146.setTop (mkF m 64 #[.val (.long q0), .second, .val (.int p1), .val (.long q2), .second, .val (.long q3), .second, .val (.long q4), .second, .val (.long q5), .second, .val (.int (1 : Int32)), .val (.int v28), .val (.int v30), .val (.long v31), .second, .val (.int v32), .unset, .unset, .unset, .unset, .unset, .unset, .unset, .unset, .unset, .unset, .unset, .unset, .unset, .unset, .unset, .unset, .unset, .unset, .unset, .unset, .unset, .unset] [(.long v33)])) _
      refine XS.lstore X146.here hx rfl (hb hby at_64) rfl (l' := #[.val (.long q0), .second, .val (.int p1), .val (.long q2), .second, .val (.long q3), .second, .val (.long q4), .second, .val (.long q5), .second, .val (.int (1 : Int32)), .val (.int v28), .val (.int v30), .val (.long v31), .second, .val (.int v32), .val (.long v33), .second, .unset, .unset, .unset, .unset, .unset, .unset, .unset, .unset, .unset, .unset, .unset, .unset, .unset, .unset, .unset, .unset, .unset, .unset, .unset, .unset]) rfl ?_
      show Steps p.tables e below (T146.setTop (mkF m 66 #[.val (.long q0), .second, .val (.int p1), .val (.long q2), .second, .val (.long q3), .second, .val (.long q4), .second, .val (.long q5), .second, .val (.int (1 : Int32)), .val (.int v28), .val (.int v30), .val (.long v31), .second, .val (.int v32), .val (.long v33), .second, .unset, .unset, .unset, .unset, .unset, .unset, .unset, .unset, .unset, .unset, .unset, .unset, .unset, .unset, .unset, .unset, .unset, .unset, .unset, .unset] [])) _
      refine XS.lload X146.here hx rfl (hb hby at_66) rfl ?_
      refine XS.iload X146.here hx rfl (hb hby at_68) rfl ?_
      refine XS.i2l X146.here hx rfl (hb hby at_70) rfl ?_
      show Steps p.tables e below (T146.setTop (mkF m 71 #[.val (.long q0), .second, .val (.int p1), .val (.long q2), .second, .val (.long q3), .second, .val (.long q4), .second, .val (.long q5), .second, .val (.int (1 : Int32)), .val (.int v28), .val (.int v30), .val (.long v31), .second, .val (.int v32), .val (.long v33), .second, .unset, .unset, .unset, .unset, .unset, .unset, .unset, .unset, .unset, .unset, .unset, .unset, .unset, .unset, .unset, .unset, .unset, .unset, .unset, .unset] [(.long (v30.toInt64)), (.long q3)])) _
      refine XS.land X146.here hx rfl (hb hby at_71) rfl ?_
      show Steps p.tables e below (T146.setTop (mkF m 72 #[.val (.long q0), .second, .val (.int p1), .val (.long q2), .second, .val (.long q3), .second, .val (.long q4), .second, .val (.long q5), .second, .val (.int (1 : Int32)), .val (.int v28), .val (.int v30), .val (.long v31), .second, .val (.int v32), .val (.long v33), .second, .unset, .unset, .unset, .unset, .unset, .unset, .unset, .unset, .unset, .unset, .unset, .unset, .unset, .unset, .unset, .unset, .unset, .unset, .unset, .unset] [(.long (q3 &&& (v30.toInt64)))])) _
      refine XS.l2i X146.here hx rfl (hb hby at_72) rfl ?_
      show Steps p.tables e below (T146.setTop (mkF m 73 #[.val (.long q0), .second, .val (.int p1), .val (.long q2), .second, .val (.long q3), .second, .val (.long q4), .second, .val (.long q5), .second, .val (.int (1 : Int32)), .val (.int v28), .val (.int v30), .val (.long v31), .second, .val (.int v32), .val (.long v33), .second, .unset, .unset, .unset, .unset, .unset, .unset, .unset, .unset, .unset, .unset, .unset, .unset, .unset, .unset, .unset, .unset, .unset, .unset, .unset, .unset] [(.int ((q3 &&& (v30.toInt64)).toInt32))])) _
      rw [← hv34]
      show Steps p.tables e below (T146.setTop (mkF m 73 #[.val (.long q0), .second, .val (.int p1), .val (.long q2), .second, .val (.long q3), .second, .val (.long q4), .second, .val (.long q5), .second, .val (.int (1 : Int32)), .val (.int v28), .val (.int v30), .val (.long v31), .second, .val (.int v32), .val (.long v33), .second, .unset, .unset, .unset, .unset, .unset, .unset, .unset, .unset, .unset, .unset, .unset, .unset, .unset, .unset, .unset, .unset, .unset, .unset, .unset, .unset] [(.int v34)])) _
      refine XS.istore X146.here hx rfl (hb hby at_73) rfl (l' := #[.val (.long q0), .second, .val (.int p1), .val (.long q2), .second, .val (.long q3), .second, .val (.long q4), .second, .val (.long q5), .second, .val (.int (1 : Int32)), .val (.int v28), .val (.int v30), .val (.long v31), .second, .val (.int v32), .val (.long v33), .second, .val (.int v34), .unset, .unset, .unset, .unset, .unset, .unset, .unset, .unset, .unset, .unset, .unset, .unset, .unset, .unset, .unset, .unset, .unset, .unset, .unset]) rfl ?_
      show Steps p.tables e below (T146.setTop (mkF m 75 #[.val (.long q0), .second, .val (.int p1), .val (.long q2), .second, .val (.long q3), .second, .val (.long q4), .second, .val (.long q5), .second, .val (.int (1 : Int32)), .val (.int v28), .val (.int v30), .val (.long v31), .second, .val (.int v32), .val (.long v33), .second, .val (.int v34), .unset, .unset, .unset, .unset, .unset, .unset, .unset, .unset, .unset, .unset, .unset, .unset, .unset, .unset, .unset, .unset, .unset, .unset, .unset] [])) _
      refine XS.lload X146.here hx rfl (hb hby at_75) rfl ?_
      refine XS.bipush X146.here hx rfl (hb hby at_77) ?_
      refine XS.lushr X146.here hx rfl (hb hby at_79) rfl ?_
      show Steps p.tables e below (T146.setTop (mkF m 80 #[.val (.long q0), .second, .val (.int p1), .val (.long q2), .second, .val (.long q3), .second, .val (.long q4), .second, .val (.long q5), .second, .val (.int (1 : Int32)), .val (.int v28), .val (.int v30), .val (.long v31), .second, .val (.int v32), .val (.long v33), .second, .val (.int v34), .unset, .unset, .unset, .unset, .unset, .unset, .unset, .unset, .unset, .unset, .unset, .unset, .unset, .unset, .unset, .unset, .unset, .unset, .unset] [(.long ((q3.toUInt64 >>> ((6 : Int32) &&& 0x3f).toInt64.toUInt64).toInt64))])) _
      refine XS.lload X146.here hx rfl (hb hby at_80) rfl ?_
      refine XS.land X146.here hx rfl (hb hby at_82) rfl ?_
      show Steps p.tables e below (T146.setTop (mkF m 83 #[.val (.long q0), .second, .val (.int p1), .val (.long q2), .second, .val (.long q3), .second, .val (.long q4), .second, .val (.long q5), .second, .val (.int (1 : Int32)), .val (.int v28), .val (.int v30), .val (.long v31), .second, .val (.int v32), .val (.long v33), .second, .val (.int v34), .unset, .unset, .unset, .unset, .unset, .unset, .unset, .unset, .unset, .unset, .unset, .unset, .unset, .unset, .unset, .unset, .unset, .unset, .unset] [(.long (((q3.toUInt64 >>> ((6 : Int32) &&& 0x3f).toInt64.toUInt64).toInt64) &&& v31))])) _
      rw [← hv35]
      show Steps p.tables e below (T146.setTop (mkF m 83 #[.val (.long q0), .second, .val (.int p1), .val (.long q2), .second, .val (.long q3), .second, .val (.long q4), .second, .val (.long q5), .second, .val (.int (1 : Int32)), .val (.int v28), .val (.int v30), .val (.long v31), .second, .val (.int v32), .val (.long v33), .second, .val (.int v34), .unset, .unset, .unset, .unset, .unset, .unset, .unset, .unset, .unset, .unset, .unset, .unset, .unset, .unset, .unset, .unset, .unset, .unset, .unset] [(.long v35)])) _
      refine XS.lstore X146.here hx rfl (hb hby at_83) rfl (l' := #[.val (.long q0), .second, .val (.int p1), .val (.long q2), .second, .val (.long q3), .second, .val (.long q4), .second, .val (.long q5), .second, .val (.int (1 : Int32)), .val (.int v28), .val (.int v30), .val (.long v31), .second, .val (.int v32), .val (.long v33), .second, .val (.int v34), .val (.long v35), .second, .unset, .unset, .unset, .unset, .unset, .unset, .unset, .unset, .unset, .unset, .unset, .unset, .unset, .unset, .unset, .unset, .unset]) rfl ?_
      show Steps p.tables e below (T146.setTop (mkF m 85 #[.val (.long q0), .second, .val (.int p1), .val (.long q2), .second, .val (.long q3), .second, .val (.long q4), .second, .val (.long q5), .second, .val (.int (1 : Int32)), .val (.int v28), .val (.int v30), .val (.long v31), .second, .val (.int v32), .val (.long v33), .second, .val (.int v34), .val (.long v35), .second, .unset, .unset, .unset, .unset, .unset, .unset, .unset, .unset, .unset, .unset, .unset, .unset, .unset, .unset, .unset, .unset, .unset] [])) _
      refine XS.iload X146.here hx rfl (hb hby at_85) rfl ?_
      refine XS.iconst X146.here hx rfl (hb hby at_87) ?_
      refine XS.icmpNo X146.here hx rfl (hb hby at_88) rfl (flt (by decide : ¬ ((1 : Int32) < (1 : Int32)))).1 ?_
      show Steps p.tables e below (T146.setTop (mkF m 91 #[.val (.long q0), .second, .val (.int p1), .val (.long q2), .second, .val (.long q3), .second, .val (.long q4), .second, .val (.long q5), .second, .val (.int (1 : Int32)), .val (.int v28), .val (.int v30), .val (.long v31), .second, .val (.int v32), .val (.long v33), .second, .val (.int v34), .val (.long v35), .second, .unset, .unset, .unset, .unset, .unset, .unset, .unset, .unset, .unset, .unset, .unset, .unset, .unset, .unset, .unset, .unset, .unset] [])) _
      refine XS.iload X146.here hx rfl (hb hby at_91) rfl ?_
      refine XS.i2l X146.here hx rfl (hb hby at_93) rfl ?_
      show Steps p.tables e below (T146.setTop (mkF m 94 #[.val (.long q0), .second, .val (.int p1), .val (.long q2), .second, .val (.long q3), .second, .val (.long q4), .second, .val (.long q5), .second, .val (.int (1 : Int32)), .val (.int v28), .val (.int v30), .val (.long v31), .second, .val (.int v32), .val (.long v33), .second, .val (.int v34), .val (.long v35), .second, .unset, .unset, .unset, .unset, .unset, .unset, .unset, .unset, .unset, .unset, .unset, .unset, .unset, .unset, .unset, .unset, .unset] [(.long (v32.toInt64))])) _
      refine XS.iload X146.here hx rfl (hb hby at_94) rfl ?_
      refine XS.lshl X146.here hx rfl (hb hby at_96) rfl ?_
      show Steps p.tables e below (T146.setTop (mkF m 97 #[.val (.long q0), .second, .val (.int p1), .val (.long q2), .second, .val (.long q3), .second, .val (.long q4), .second, .val (.long q5), .second, .val (.int (1 : Int32)), .val (.int v28), .val (.int v30), .val (.long v31), .second, .val (.int v32), .val (.long v33), .second, .val (.int v34), .val (.long v35), .second, .unset, .unset, .unset, .unset, .unset, .unset, .unset, .unset, .unset, .unset, .unset, .unset, .unset, .unset, .unset, .unset, .unset] [(.long ((v32.toInt64) <<< (v28 &&& 0x3f).toInt64))])) _
      refine XS.lload X146.here hx rfl (hb hby at_97) rfl ?_
      refine XS.lor X146.here hx rfl (hb hby at_99) rfl ?_
      show Steps p.tables e below (T146.setTop (mkF m 100 #[.val (.long q0), .second, .val (.int p1), .val (.long q2), .second, .val (.long q3), .second, .val (.long q4), .second, .val (.long q5), .second, .val (.int (1 : Int32)), .val (.int v28), .val (.int v30), .val (.long v31), .second, .val (.int v32), .val (.long v33), .second, .val (.int v34), .val (.long v35), .second, .unset, .unset, .unset, .unset, .unset, .unset, .unset, .unset, .unset, .unset, .unset, .unset, .unset, .unset, .unset, .unset, .unset] [(.long (((v32.toInt64) <<< (v28 &&& 0x3f).toInt64) ||| v33))])) _
      refine XS.goto X146.here hx rfl (pc0 := 100) (pc' := 104) rfl (hb hby at_100) (by decide) (by decide) ?_
      show Steps p.tables e below (T146.setTop (mkF m 104 #[.val (.long q0), .second, .val (.int p1), .val (.long q2), .second, .val (.long q3), .second, .val (.long q4), .second, .val (.long q5), .second, .val (.int (1 : Int32)), .val (.int v28), .val (.int v30), .val (.long v31), .second, .val (.int v32), .val (.long v33), .second, .val (.int v34), .val (.long v35), .second, .unset, .unset, .unset, .unset, .unset, .unset, .unset, .unset, .unset, .unset, .unset, .unset, .unset, .unset, .unset, .unset, .unset] [(.long (((v32.toInt64) <<< (v28 &&& 0x3f).toInt64) ||| v33))])) _
      rw [← hv36]
      show Steps p.tables e below (T146.setTop (mkF m 104 #[.val (.long q0), .second, .val (.int p1), .val (.long q2), .second, .val (.long q3), .second, .val (.long q4), .second, .val (.long q5), .second, .val (.int (1 : Int32)), .val (.int v28), .val (.int v30), .val (.long v31), .second, .val (.int v32), .val (.long v33), .second, .val (.int v34), .val (.long v35), .second, .unset, .unset, .unset, .unset, .unset, .unset, .unset, .unset, .unset, .unset, .unset, .unset, .unset, .unset, .unset, .unset, .unset] [(.long v36)])) _
      refine XS.lstore X146.here hx rfl (hb hby at_104) rfl (l' := #[.val (.long q0), .second, .val (.int p1), .val (.long q2), .second, .val (.long q3), .second, .val (.long q4), .second, .val (.long q5), .second, .val (.int (1 : Int32)), .val (.int v28), .val (.int v30), .val (.long v31), .second, .val (.int v32), .val (.long v33), .second, .val (.int v34), .val (.long v35), .second, .val (.long v36), .second, .unset, .unset, .unset, .unset, .unset, .unset, .unset, .unset, .unset, .unset, .unset, .unset, .unset, .unset, .unset]) rfl ?_
      show Steps p.tables e below (T146.setTop (mkF m 106 #[.val (.long q0), .second, .val (.int p1), .val (.long q2), .second, .val (.long q3), .second, .val (.long q4), .second, .val (.long q5), .second, .val (.int (1 : Int32)), .val (.int v28), .val (.int v30), .val (.long v31), .second, .val (.int v32), .val (.long v33), .second, .val (.int v34), .val (.long v35), .second, .val (.long v36), .second, .unset, .unset, .unset, .unset, .unset, .unset, .unset, .unset, .unset, .unset, .unset, .unset, .unset, .unset, .unset] [])) _
      refine XS.iload X146.here hx rfl (hb hby at_106) rfl ?_
      refine XS.iconst X146.here hx rfl (hb hby at_108) ?_
      refine XS.icmpYes X146.here hx rfl (pc0 := 109) (pc' := 124) rfl (hb hby at_109) rfl (feq (by decide : ¬ ((1 : Int32) = (2 : Int32)))).2 (by decide) (by decide) ?_
      show Steps p.tables e below (T146.setTop (mkF m 124 #[.val (.long q0), .second, .val (.int p1), .val (.long q2), .second, .val (.long q3), .second, .val (.long q4), .second, .val (.long q5), .second, .val (.int (1 : Int32)), .val (.int v28), .val (.int v30), .val (.long v31), .second, .val (.int v32), .val (.long v33), .second, .val (.int v34), .val (.long v35), .second, .val (.long v36), .second, .unset, .unset, .unset, .unset, .unset, .unset, .unset, .unset, .unset, .unset, .unset, .unset, .unset, .unset, .unset] [])) _
      refine XS.lconst X146.here hx rfl (hb hby at_124) ?_
      refine XS.lstore X146.here hx rfl (hb hby at_125) rfl (l' := #[.val (.long q0), .second, .val (.int p1), .val (.long q2), .second, .val (.long q3), .second, .val (.long q4), .second, .val (.long q5), .second, .val (.int (1 : Int32)), .val (.int v28), .val (.int v30), .val (.long v31), .second, .val (.int v32), .val (.long v33), .second, .val (.int v34), .val (.long v35), .second, .val (.long v36), .second, .val (.long (0 : Int64)), .second, .unset, .unset, .unset, .unset, .unset, .unset, .unset, .unset, .unset, .unset, .unset, .unset, .unset]) rfl ?_
      show Steps p.tables e below (T146.setTop (mkF m 127 #[.val (.long q0), .second, .val (.int p1), .val (.long q2), .second, .val (.long q3), .second, .val (.long q4), .second, .val (.long q5), .second, .val (.int (1 : Int32)), .val (.int v28), .val (.int v30), .val (.long v31), .second, .val (.int v32), .val (.long v33), .second, .val (.int v34), .val (.long v35), .second, .val (.long v36), .second, .val (.long (0 : Int64)), .second, .unset, .unset, .unset, .unset, .unset, .unset, .unset, .unset, .unset, .unset, .unset, .unset, .unset] [])) _
      refine XS.lloadN X146.here hx rfl (hb hby at_127) rfl ?_
      show Steps p.tables e below (T146.setTop (mkF m 128 #[.val (.long q0), .second, .val (.int p1), .val (.long q2), .second, .val (.long q3), .second, .val (.long q4), .second, .val (.long q5), .second, .val (.int (1 : Int32)), .val (.int v28), .val (.int v30), .val (.long v31), .second, .val (.int v32), .val (.long v33), .second, .val (.int v34), .val (.long v35), .second, .val (.long v36), .second, .val (.long (0 : Int64)), .second, .unset, .unset, .unset, .unset, .unset, .unset, .unset, .unset, .unset, .unset, .unset, .unset, .unset] [(.long q0)])) _
      refine X146.ldc2Long hx hown (mvT hZ (hw _ (List.mem_of_getElem? (i := 1) rfl))) (g := (mkF m 128 #[.val (.long q0), .second, .val (.int p1), .val (.long q2), .second, .val (.long q3), .second, .val (.long q4), .second, .val (.long q5), .second, .val (.int (1 : Int32)), .val (.int v28), .val (.int v30), .val (.long v31), .second, .val (.int v32), .val (.long v33), .second, .val (.int v34), .val (.long v35), .second, .val (.long v36), .second, .val (.long (0 : Int64)), .second, .unset, .unset, .unset, .unset, .unset, .unset, .unset, .unset, .unset, .unset, .unset, .unset, .unset] [(.long q0)])) rfl (hb hby at_128) _ ?_
      show Steps p.tables e below (T146.setTop (mkF m 131 #[.val (.long q0), .second, .val (.int p1), .val (.long q2), .second, .val (.long q3), .second, .val (.long q4), .second, .val (.long q5), .second, .val (.int (1 : Int32)), .val (.int v28), .val (.int v30), .val (.long v31), .second, .val (.int v32), .val (.long v33), .second, .val (.int v34), .val (.long v35), .second, .val (.long v36), .second, .val (.long (0 : Int64)), .second, .unset, .unset, .unset, .unset, .unset, .unset, .unset, .unset, .unset, .unset, .unset, .unset, .unset] [(.long (4294967295 : Int64)), (.long q0)])) _
      refine XS.land X146.here hx rfl (hb hby at_131) rfl ?_
      show Steps p.tables e below (T146.setTop (mkF m 132 #[.val (.long q0), .second, .val (.int p1), .val (.long q2), .second, .val (.long q3), .second, .val (.long q4), .second, .val (.long q5), .second, .val (.int (1 : Int32)), .val (.int v28), .val (.int v30), .val (.long v31), .second, .val (.int v32), .val (.long v33), .second, .val (.int v34), .val (.long v35), .second, .val (.long v36), .second, .val (.long (0 : Int64)), .second, .unset, .unset, .unset, .unset, .unset, .unset, .unset, .unset, .unset, .unset, .unset, .unset, .unset] [(.long (q0 &&& (4294967295 : Int64)))])) _
      refine X146.ldc2Long hx hown (mvT hZ (hw _ (List.mem_of_getElem? (i := 2) rfl))) (g := (mkF m 132 #[.val (.long q0), .second, .val (.int p1), .val (.long q2), .second, .val (.long q3), .second, .val (.long q4), .second, .val (.long q5), .second, .val (.int (1 : Int32)), .val (.int v28), .val (.int v30), .val (.long v31), .second, .val (.int v32), .val (.long v33), .second, .val (.int v34), .val (.long v35), .second, .val (.long v36), .second, .val (.long (0 : Int64)), .second, .unset, .unset, .unset, .unset, .unset, .unset, .unset, .unset, .unset, .unset, .unset, .unset, .unset] [(.long (q0 &&& (4294967295 : Int64)))])) rfl (hb hby at_132) _ ?_
      show Steps p.tables e below (T146.setTop (mkF m 135 #[.val (.long q0), .second, .val (.int p1), .val (.long q2), .second, .val (.long q3), .second, .val (.long q4), .second, .val (.long q5), .second, .val (.int (1 : Int32)), .val (.int v28), .val (.int v30), .val (.long v31), .second, .val (.int v32), .val (.long v33), .second, .val (.int v34), .val (.long v35), .second, .val (.long v36), .second, .val (.long (0 : Int64)), .second, .unset, .unset, .unset, .unset, .unset, .unset, .unset, .unset, .unset, .unset, .unset, .unset, .unset] [(.long (4294967296 : Int64)), (.long (q0 &&& (4294967295 : Int64)))])) _
      refine XS.lload X146.here hx rfl (hb hby at_135) rfl ?_
      refine XS.lsub X146.here hx rfl (hb hby at_137) rfl ?_
      show Steps p.tables e below (T146.setTop (mkF m 138 #[.val (.long q0), .second, .val (.int p1), .val (.long q2), .second, .val (.long q3), .second, .val (.long q4), .second, .val (.long q5), .second, .val (.int (1 : Int32)), .val (.int v28), .val (.int v30), .val (.long v31), .second, .val (.int v32), .val (.long v33), .second, .val (.int v34), .val (.long v35), .second, .val (.long v36), .second, .val (.long (0 : Int64)), .second, .unset, .unset, .unset, .unset, .unset, .unset, .unset, .unset, .unset, .unset, .unset, .unset, .unset] [(.long ((4294967296 : Int64) - v36)), (.long (q0 &&& (4294967295 : Int64)))])) _
      refine XS.lload X146.here hx rfl (hb hby at_138) rfl ?_
      refine XS.lsub X146.here hx rfl (hb hby at_140) rfl ?_
      show Steps p.tables e below (T146.setTop (mkF m 141 #[.val (.long q0), .second, .val (.int p1), .val (.long q2), .second, .val (.long q3), .second, .val (.long q4), .second, .val (.long q5), .second, .val (.int (1 : Int32)), .val (.int v28), .val (.int v30), .val (.long v31), .second, .val (.int v32), .val (.long v33), .second, .val (.int v34), .val (.long v35), .second, .val (.long v36), .second, .val (.long (0 : Int64)), .second, .unset, .unset, .unset, .unset, .unset, .unset, .unset, .unset, .unset, .unset, .unset, .unset, .unset] [(.long (((4294967296 : Int64) - v36) - (0 : Int64))), (.long (q0 &&& (4294967295 : Int64)))])) _
      refine XS.lrem X146.here hx rfl (hb hby at_141) rfl hnz141_147 ?_
      rw [own_remJ (q0 &&& (4294967295 : Int64)) (((4294967296 : Int64) - v36) - (0 : Int64))]
      show Steps p.tables e below (T146.setTop (mkF m 142 #[.val (.long q0), .second, .val (.int p1), .val (.long q2), .second, .val (.long q3), .second, .val (.long q4), .second, .val (.long q5), .second, .val (.int (1 : Int32)), .val (.int v28), .val (.int v30), .val (.long v31), .second, .val (.int v32), .val (.long v33), .second, .val (.int v34), .val (.long v35), .second, .val (.long v36), .second, .val (.long (0 : Int64)), .second, .unset, .unset, .unset, .unset, .unset, .unset, .unset, .unset, .unset, .unset, .unset, .unset, .unset] [(.long ((q0 &&& (4294967295 : Int64)) % (((4294967296 : Int64) - v36) - (0 : Int64))))])) _
      rw [← hv37]
      show Steps p.tables e below (T146.setTop (mkF m 142 #[.val (.long q0), .second, .val (.int p1), .val (.long q2), .second, .val (.long q3), .second, .val (.long q4), .second, .val (.long q5), .second, .val (.int (1 : Int32)), .val (.int v28), .val (.int v30), .val (.long v31), .second, .val (.int v32), .val (.long v33), .second, .val (.int v34), .val (.long v35), .second, .val (.long v36), .second, .val (.long (0 : Int64)), .second, .unset, .unset, .unset, .unset, .unset, .unset, .unset, .unset, .unset, .unset, .unset, .unset, .unset] [(.long v37)])) _
      refine XS.lstore X146.here hx rfl (hb hby at_142) rfl (l' := #[.val (.long q0), .second, .val (.int p1), .val (.long q2), .second, .val (.long q3), .second, .val (.long q4), .second, .val (.long q5), .second, .val (.int (1 : Int32)), .val (.int v28), .val (.int v30), .val (.long v31), .second, .val (.int v32), .val (.long v33), .second, .val (.int v34), .val (.long v35), .second, .val (.long v36), .second, .val (.long (0 : Int64)), .second, .val (.long v37), .second, .unset, .unset, .unset, .unset, .unset, .unset, .unset, .unset, .unset, .unset, .unset]) rfl ?_
      show Steps p.tables e below (T146.setTop (mkF m 144 #[.val (.long q0), .second, .val (.int p1), .val (.long q2), .second, .val (.long q3), .second, .val (.long q4), .second, .val (.long q5), .second, .val (.int (1 : Int32)), .val (.int v28), .val (.int v30), .val (.long v31), .second, .val (.int v32), .val (.long v33), .second, .val (.int v34), .val (.long v35), .second, .val (.long v36), .second, .val (.long (0 : Int64)), .second, .val (.long v37), .second, .unset, .unset, .unset, .unset, .unset, .unset, .unset, .unset, .unset, .unset, .unset] [])) _
      refine XS.lload X146.here hx rfl (hb hby at_144) rfl ?_
      refine XS.lload X146.here hx rfl (hb hby at_146) rfl ?_
      refine XS.ladd X146.here hx rfl (hb hby at_148) rfl ?_
      show Steps p.tables e below (T146.setTop (mkF m 149 #[.val (.long q0), .second, .val (.int p1), .val (.long q2), .second, .val (.long q3), .second, .val (.long q4), .second, .val (.long q5), .second, .val (.int (1 : Int32)), .val (.int v28), .val (.int v30), .val (.long v31), .second, .val (.int v32), .val (.long v33), .second, .val (.int v34), .val (.long v35), .second, .val (.long v36), .second, .val (.long (0 : Int64)), .second, .val (.long v37), .second, .unset, .unset, .unset, .unset, .unset, .unset, .unset, .unset, .unset, .unset, .unset] [(.long (v37 + v36))])) _
      rw [← hv38]
      show Steps p.tables e below (T146.setTop (mkF m 149 #[.val (.long q0), .second, .val (.int p1), .val (.long q2), .second, .val (.long q3), .second, .val (.long q4), .second, .val (.long q5), .second, .val (.int (1 : Int32)), .val (.int v28), .val (.int v30), .val (.long v31), .second, .val (.int v32), .val (.long v33), .second, .val (.int v34), .val (.long v35), .second, .val (.long v36), .second, .val (.long (0 : Int64)), .second, .val (.long v37), .second, .unset, .unset, .unset, .unset, .unset, .unset, .unset, .unset, .unset, .unset, .unset] [(.long v38)])) _
      refine XS.lstore X146.here hx rfl (hb hby at_149) rfl (l' := #[.val (.long q0), .second, .val (.int p1), .val (.long q2), .second, .val (.long q3), .second, .val (.long q4), .second, .val (.long q5), .second, .val (.int (1 : Int32)), .val (.int v28), .val (.int v30), .val (.long v31), .second, .val (.int v32), .val (.long v33), .second, .val (.int v34), .val (.long v35), .second, .val (.long v36), .second, .val (.long (0 : Int64)), .second, .val (.long v37), .second, .val (.long v38), .second, .unset, .unset, .unset, .unset, .unset, .unset, .unset, .unset, .unset]) rfl ?_
      show Steps p.tables e below (T146.setTop (mkF m 151 #[.val (.long q0), .second, .val (.int p1), .val (.long q2), .second, .val (.long q3), .second, .val (.long q4), .second, .val (.long q5), .second, .val (.int (1 : Int32)), .val (.int v28), .val (.int v30), .val (.long v31), .second, .val (.int v32), .val (.long v33), .second, .val (.int v34), .val (.long v35), .second, .val (.long v36), .second, .val (.long (0 : Int64)), .second, .val (.long v37), .second, .val (.long v38), .second, .unset, .unset, .unset, .unset, .unset, .unset, .unset, .unset, .unset] [])) _
      refine XS.lload X146.here hx rfl (hb hby at_151) rfl ?_
      refine XS.lload X146.here hx rfl (hb hby at_153) rfl ?_
      refine XS.ladd X146.here hx rfl (hb hby at_155) rfl ?_
      show Steps p.tables e below (T146.setTop (mkF m 156 #[.val (.long q0), .second, .val (.int p1), .val (.long q2), .second, .val (.long q3), .second, .val (.long q4), .second, .val (.long q5), .second, .val (.int (1 : Int32)), .val (.int v28), .val (.int v30), .val (.long v31), .second, .val (.int v32), .val (.long v33), .second, .val (.int v34), .val (.long v35), .second, .val (.long v36), .second, .val (.long (0 : Int64)), .second, .val (.long v37), .second, .val (.long v38), .second, .unset, .unset, .unset, .unset, .unset, .unset, .unset, .unset, .unset] [(.long (v38 + (0 : Int64)))])) _
      rw [← hv39]
      show Steps p.tables e below (T146.setTop (mkF m 156 #[.val (.long q0), .second, .val (.int p1), .val (.long q2), .second, .val (.long q3), .second, .val (.long q4), .second, .val (.long q5), .second, .val (.int (1 : Int32)), .val (.int v28), .val (.int v30), .val (.long v31), .second, .val (.int v32), .val (.long v33), .second, .val (.int v34), .val (.long v35), .second, .val (.long v36), .second, .val (.long (0 : Int64)), .second, .val (.long v37), .second, .val (.long v38), .second, .unset, .unset, .unset, .unset, .unset, .unset, .unset, .unset, .unset] [(.long v39)])) _
      refine XS.lstore X146.here hx rfl (hb hby at_156) rfl (l' := #[.val (.long q0), .second, .val (.int p1), .val (.long q2), .second, .val (.long q3), .second, .val (.long q4), .second, .val (.long q5), .second, .val (.int (1 : Int32)), .val (.int v28), .val (.int v30), .val (.long v31), .second, .val (.int v32), .val (.long v33), .second, .val (.int v34), .val (.long v35), .second, .val (.long v36), .second, .val (.long (0 : Int64)), .second, .val (.long v37), .second, .val (.long v38), .second, .val (.long v39), .second, .unset, .unset, .unset, .unset, .unset, .unset, .unset]) rfl ?_
      show Steps p.tables e below (T146.setTop (mkF m 158 #[.val (.long q0), .second, .val (.int p1), .val (.long q2), .second, .val (.long q3), .second, .val (.long q4), .second, .val (.long q5), .second, .val (.int (1 : Int32)), .val (.int v28), .val (.int v30), .val (.long v31), .second, .val (.int v32), .val (.long v33), .second, .val (.int v34), .val (.long v35), .second, .val (.long v36), .second, .val (.long (0 : Int64)), .second, .val (.long v37), .second, .val (.long v38), .second, .val (.long v39), .second, .unset, .unset, .unset, .unset, .unset, .unset, .unset] [])) _
      refine XS.lload X146.here hx rfl (hb hby at_158) rfl ?_
      refine XS.lload X146.here hx rfl (hb hby at_160) rfl ?_
      show Steps p.tables e below (T146.setTop (mkF m 162 #[.val (.long q0), .second, .val (.int p1), .val (.long q2), .second, .val (.long q3), .second, .val (.long q4), .second, .val (.long q5), .second, .val (.int (1 : Int32)), .val (.int v28), .val (.int v30), .val (.long v31), .second, .val (.int v32), .val (.long v33), .second, .val (.int v34), .val (.long v35), .second, .val (.long v36), .second, .val (.long (0 : Int64)), .second, .val (.long v37), .second, .val (.long v38), .second, .val (.long v39), .second, .unset, .unset, .unset, .unset, .unset, .unset, .unset] [(.long q4), (.long v39)])) _
      refine X146.ldc2Long hx hown (mvT hZ (hw _ (List.mem_of_getElem? (i := 1) rfl))) (g := (mkF m 162 #[.val (.long q0), .second, .val (.int p1), .val (.long q2), .second, .val (.long q3), .second, .val (.long q4), .second, .val (.long q5), .second, .val (.int (1 : Int32)), .val (.int v28), .val (.int v30), .val (.long v31), .second, .val (.int v32), .val (.long v33), .second, .val (.int v34), .val (.long v35), .second, .val (.long v36), .second, .val (.long (0 : Int64)), .second, .val (.long v37), .second, .val (.long v38), .second, .val (.long v39), .second, .unset, .unset, .unset, .unset, .unset, .unset, .unset] [(.long q4), (.long v39)])) rfl (hb hby at_162) _ ?_
      show Steps p.tables e below (T146.setTop (mkF m 165 #[.val (.long q0), .second, .val (.int p1), .val (.long q2), .second, .val (.long q3), .second, .val (.long q4), .second, .val (.long q5), .second, .val (.int (1 : Int32)), .val (.int v28), .val (.int v30), .val (.long v31), .second, .val (.int v32), .val (.long v33), .second, .val (.int v34), .val (.long v35), .second, .val (.long v36), .second, .val (.long (0 : Int64)), .second, .val (.long v37), .second, .val (.long v38), .second, .val (.long v39), .second, .unset, .unset, .unset, .unset, .unset, .unset, .unset] [(.long (4294967295 : Int64)), (.long q4), (.long v39)])) _
      refine XS.land X146.here hx rfl (hb hby at_165) rfl ?_
      show Steps p.tables e below (T146.setTop (mkF m 166 #[.val (.long q0), .second, .val (.int p1), .val (.long q2), .second, .val (.long q3), .second, .val (.long q4), .second, .val (.long q5), .second, .val (.int (1 : Int32)), .val (.int v28), .val (.int v30), .val (.long v31), .second, .val (.int v32), .val (.long v33), .second, .val (.int v34), .val (.long v35), .second, .val (.long v36), .second, .val (.long (0 : Int64)), .second, .val (.long v37), .second, .val (.long v38), .second, .val (.long v39), .second, .unset, .unset, .unset, .unset, .unset, .unset, .unset] [(.long (q4 &&& (4294967295 : Int64))), (.long v39)])) _
      rw [← hv40]
      show Steps p.tables e below (T146.setTop (mkF m 166 #[.val (.long q0), .second, .val (.int p1), .val (.long q2), .second, .val (.long q3), .second, .val (.long q4), .second, .val (.long q5), .second, .val (.int (1 : Int32)), .val (.int v28), .val (.int v30), .val (.long v31), .second, .val (.int v32), .val (.long v33), .second, .val (.int v34), .val (.long v35), .second, .val (.long v36), .second, .val (.long (0 : Int64)), .second, .val (.long v37), .second, .val (.long v38), .second, .val (.long v39), .second, .unset, .unset, .unset, .unset, .unset, .unset, .unset] [(.long v40), (.long v39)])) _
      refine st148 _ ?_
      show Steps p.tables e below (T148.setTop (mkF m 169 #[.val (.long q0), .second, .val (.int p1), .val (.long q2), .second, .val (.long q3), .second, .val (.long q4), .second, .val (.long q5), .second, .val (.int (1 : Int32)), .val (.int v28), .val (.int v30), .val (.long v31), .second, .val (.int v32), .val (.long v33), .second, .val (.int v34), .val (.long v35), .second, .val (.long v36), .second, .val (.long (0 : Int64)), .second, .val (.long v37), .second, .val (.long v38), .second, .val (.long v39), .second, .unset, .unset, .unset, .unset, .unset, .unset, .unset] [(.long (own_rmx v39 v40))])) _
      rw [← hv41]
      show Steps p.tables e below (T148.setTop (mkF m 169 #[.val (.long q0), .second, .val (.int p1), .val (.long q2), .second, .val (.long q3), .second, .val (.long q4), .second, .val (.long q5), .second, .val (.int (1 : Int32)), .val (.int v28), .val (.int v30), .val (.long v31), .second, .val (.int v32), .val (.long v33), .second, .val (.int v34), .val (.long v35), .second, .val (.long v36), .second, .val (.long (0 : Int64)), .second, .val (.long v37), .second, .val (.long v38), .second, .val (.long v39), .second, .unset, .unset, .unset, .unset, .unset, .unset, .unset] [(.long v41)])) _
      refine XS.lstore X148.here hx rfl (hb hby at_169) rfl (l' := #[.val (.long q0), .second, .val (.int p1), .val (.long q2), .second, .val (.long q3), .second, .val (.long q4), .second, .val (.long q5), .second, .val (.int (1 : Int32)), .val (.int v28), .val (.int v30), .val (.long v31), .second, .val (.int v32), .val (.long v33), .second, .val (.int v34), .val (.long v35), .second, .val (.long v36), .second, .val (.long (0 : Int64)), .second, .val (.long v37), .second, .val (.long v38), .second, .val (.long v39), .second, .val (.long v41), .second, .unset, .unset, .unset, .unset, .unset]) rfl ?_
      show Steps p.tables e below (T148.setTop (mkF m 171 #[.val (.long q0), .second, .val (.int p1), .val (.long q2), .second, .val (.long q3), .second, .val (.long q4), .second, .val (.long q5), .second, .val (.int (1 : Int32)), .val (.int v28), .val (.int v30), .val (.long v31), .second, .val (.int v32), .val (.long v33), .second, .val (.int v34), .val (.long v35), .second, .val (.long v36), .second, .val (.long (0 : Int64)), .second, .val (.long v37), .second, .val (.long v38), .second, .val (.long v39), .second, .val (.long v41), .second, .unset, .unset, .unset, .unset, .unset] [])) _
      refine XS.iload X148.here hx rfl (hb hby at_171) rfl ?_
      refine XS.ifYes X148.here hx rfl (pc0 := 173) (pc' := 182) rfl (hb hby at_173) rfl ((if0 _ _).trans (feq (by decide : ¬ ((1 : Int32) = (0 : Int32)))).2) (by decide) (by decide) ?_
      show Steps p.tables e below (T148.setTop (mkF m 182 #[.val (.long q0), .second, .val (.int p1), .val (.long q2), .second, .val (.long q3), .second, .val (.long q4), .second, .val (.long q5), .second, .val (.int (1 : Int32)), .val (.int v28), .val (.int v30), .val (.long v31), .second, .val (.int v32), .val (.long v33), .second, .val (.int v34), .val (.long v35), .second, .val (.long v36), .second, .val (.long (0 : Int64)), .second, .val (.long v37), .second, .val (.long v38), .second, .val (.long v39), .second, .val (.long v41), .second, .unset, .unset, .unset, .unset, .unset] [])) _
      refine XS.iload X148.here hx rfl (hb hby at_182) rfl ?_
      refine XS.istore X148.here hx rfl (hb hby at_184) rfl (l' := #[.val (.long q0), .second, .val (.int p1), .val (.long q2), .second, .val (.long q3), .second, .val (.long q4), .second, .val (.long q5), .second, .val (.int (1 : Int32)), .val (.int v28), .val (.int v30), .val (.long v31), .second, .val (.int v32), .val (.long v33), .second, .val (.int v34), .val (.long v35), .second, .val (.long v36), .second, .val (.long (0 : Int64)), .second, .val (.long v37), .second, .val (.long v38), .second, .val (.long v39), .second, .val (.long v41), .second, .val (.int v28), .unset, .unset, .unset, .unset]) rfl ?_
      show Steps p.tables e below (T148.setTop (mkF m 186 #[.val (.long q0), .second, .val (.int p1), .val (.long q2), .second, .val (.long q3), .second, .val (.long q4), .second, .val (.long q5), .second, .val (.int (1 : Int32)), .val (.int v28), .val (.int v30), .val (.long v31), .second, .val (.int v32), .val (.long v33), .second, .val (.int v34), .val (.long v35), .second, .val (.long v36), .second, .val (.long (0 : Int64)), .second, .val (.long v37), .second, .val (.long v38), .second, .val (.long v39), .second, .val (.long v41), .second, .val (.int v28), .unset, .unset, .unset, .unset] [])) _
      refine XS.iconst X148.here hx rfl (hb hby at_186) ?_
      show Steps p.tables e below (T148.setTop (mkF m 187 #[.val (.long q0), .second, .val (.int p1), .val (.long q2), .second, .val (.long q3), .second, .val (.long q4), .second, .val (.long q5), .second, .val (.int (1 : Int32)), .val (.int v28), .val (.int v30), .val (.long v31), .second, .val (.int v32), .val (.long v33), .second, .val (.int v34), .val (.long v35), .second, .val (.long v36), .second, .val (.long (0 : Int64)), .second, .val (.long v37), .second, .val (.long v38), .second, .val (.long v39), .second, .val (.long v41), .second, .val (.int v28), .unset, .unset, .unset, .unset] [(.int (3 : Int32))])) _
      refine st149 _ ?_
      show Steps p.tables e below (T149.setTop (mkF m 189 #[.val (.long q0), .second, .val (.int p1), .val (.long q2), .second, .val (.long q3), .second, .val (.long q4), .second, .val (.long q5), .second, .val (.int (1 : Int32)), .val (.int v28), .val (.int v30), .val (.long v31), .second, .val (.int v32), .val (.long v33), .second, .val (.int v34), .val (.long v35), .second, .val (.long v36), .second, .val (.long (0 : Int64)), .second, .val (.long v37), .second, .val (.long v38), .second, .val (.long v39), .second, .val (.long v41), .second, .val (.int v28), .unset, .unset, .unset, .unset] [(.ref b149)])) _
      refine XS.astore X149.here hx rfl (hb hby at_189) rfl rfl (l' := #[.val (.long q0), .second, .val (.int p1), .val (.long q2), .second, .val (.long q3), .second, .val (.long q4), .second, .val (.long q5), .second, .val (.int (1 : Int32)), .val (.int v28), .val (.int v30), .val (.long v31), .second, .val (.int v32), .val (.long v33), .second, .val (.int v34), .val (.long v35), .second, .val (.long v36), .second, .val (.long (0 : Int64)), .second, .val (.long v37), .second, .val (.long v38), .second, .val (.long v39), .second, .val (.long v41), .second, .val (.int v28), .val (.ref b149), .unset, .unset, .unset]) rfl ?_
      show Steps p.tables e below (T149.setTop (mkF m 191 #[.val (.long q0), .second, .val (.int p1), .val (.long q2), .second, .val (.long q3), .second, .val (.long q4), .second, .val (.long q5), .second, .val (.int (1 : Int32)), .val (.int v28), .val (.int v30), .val (.long v31), .second, .val (.int v32), .val (.long v33), .second, .val (.int v34), .val (.long v35), .second, .val (.long v36), .second, .val (.long (0 : Int64)), .second, .val (.long v37), .second, .val (.long v38), .second, .val (.long v39), .second, .val (.long v41), .second, .val (.int v28), .val (.ref b149), .unset, .unset, .unset] [])) _
      refine XS.iconst X149.here hx rfl (hb hby at_191) ?_
      refine XS.istore X149.here hx rfl (hb hby at_192) rfl (l' := #[.val (.long q0), .second, .val (.int p1), .val (.long q2), .second, .val (.long q3), .second, .val (.long q4), .second, .val (.long q5), .second, .val (.int (1 : Int32)), .val (.int v28), .val (.int v30), .val (.long v31), .second, .val (.int v32), .val (.long v33), .second, .val (.int v34), .val (.long v35), .second, .val (.long v36), .second, .val (.long (0 : Int64)), .second, .val (.long v37), .second, .val (.long v38), .second, .val (.long v39), .second, .val (.long v41), .second, .val (.int v28), .val (.ref b149), .val (.int (0 : Int32)), .unset, .unset]) rfl ?_
      show Steps p.tables e below (T149.setTop (mkF m 194 #[.val (.long q0), .second, .val (.int p1), .val (.long q2), .second, .val (.long q3), .second, .val (.long q4), .second, .val (.long q5), .second, .val (.int (1 : Int32)), .val (.int v28), .val (.int v30), .val (.long v31), .second, .val (.int v32), .val (.long v33), .second, .val (.int v34), .val (.long v35), .second, .val (.long v36), .second, .val (.long (0 : Int64)), .second, .val (.long v37), .second, .val (.long v38), .second, .val (.long v39), .second, .val (.long v41), .second, .val (.int v28), .val (.ref b149), .val (.int (0 : Int32)), .unset, .unset] [])) _
      refine XS.iload X149.here hx rfl (hb hby at_194) rfl ?_
      refine XS.iconst X149.here hx rfl (hb hby at_196) ?_
      refine XS.icmpNo X149.here hx rfl (hb hby at_197) rfl (flt (by decide : ¬ ((1 : Int32) < (1 : Int32)))).1 ?_
      show Steps p.tables e below (T149.setTop (mkF m 200 #[.val (.long q0), .second, .val (.int p1), .val (.long q2), .second, .val (.long q3), .second, .val (.long q4), .second, .val (.long q5), .second, .val (.int (1 : Int32)), .val (.int v28), .val (.int v30), .val (.long v31), .second, .val (.int v32), .val (.long v33), .second, .val (.int v34), .val (.long v35), .second, .val (.long v36), .second, .val (.long (0 : Int64)), .second, .val (.long v37), .second, .val (.long v38), .second, .val (.long v39), .second, .val (.long v41), .second, .val (.int v28), .val (.ref b149), .val (.int (0 : Int32)), .unset, .unset] [])) _
      refine XS.aload X149.here hx rfl (hb hby at_200) rfl rfl ?_
      refine XS.lconst X149.here hx rfl (hb hby at_202) ?_
      refine XS.iload X149.here hx rfl (hb hby at_203) rfl ?_
      show Steps p.tables e below (T149.setTop (mkF m 205 #[.val (.long q0), .second, .val (.int p1), .val (.long q2), .second, .val (.long q3), .second, .val (.long q4), .second, .val (.long q5), .second, .val (.int (1 : Int32)), .val (.int v28), .val (.int v30), .val (.long v31), .second, .val (.int v32), .val (.long v33), .second, .val (.int v34), .val (.long v35), .second, .val (.long v36), .second, .val (.long (0 : Int64)), .second, .val (.long v37), .second, .val (.long v38), .second, .val (.long v39), .second, .val (.long v41), .second, .val (.int v28), .val (.ref b149), .val (.int (0 : Int32)), .unset, .unset] [(.int v32), (.long (1 : Int64)), (.ref b149)])) _
      refine XS.lshl X149.here hx rfl (hb hby at_205) rfl ?_
      show Steps p.tables e below (T149.setTop (mkF m 206 #[.val (.long q0), .second, .val (.int p1), .val (.long q2), .second, .val (.long q3), .second, .val (.long q4), .second, .val (.long q5), .second, .val (.int (1 : Int32)), .val (.int v28), .val (.int v30), .val (.long v31), .second, .val (.int v32), .val (.long v33), .second, .val (.int v34), .val (.long v35), .second, .val (.long v36), .second, .val (.long (0 : Int64)), .second, .val (.long v37), .second, .val (.long v38), .second, .val (.long v39), .second, .val (.long v41), .second, .val (.int v28), .val (.ref b149), .val (.int (0 : Int32)), .unset, .unset] [(.long ((1 : Int64) <<< (v32 &&& 0x3f).toInt64)), (.ref b149)])) _
      refine XS.lconst X149.here hx rfl (hb hby at_206) ?_
      refine XS.lsub X149.here hx rfl (hb hby at_207) rfl ?_
      show Steps p.tables e below (T149.setTop (mkF m 208 #[.val (.long q0), .second, .val (.int p1), .val (.long q2), .second, .val (.long q3), .second, .val (.long q4), .second, .val (.long q5), .second, .val (.int (1 : Int32)), .val (.int v28), .val (.int v30), .val (.long v31), .second, .val (.int v32), .val (.long v33), .second, .val (.int v34), .val (.long v35), .second, .val (.long v36), .second, .val (.long (0 : Int64)), .second, .val (.long v37), .second, .val (.long v38), .second, .val (.long v39), .second, .val (.long v41), .second, .val (.int v28), .val (.ref b149), .val (.int (0 : Int32)), .unset, .unset] [(.long (((1 : Int64) <<< (v32 &&& 0x3f).toInt64) - (1 : Int64))), (.ref b149)])) _
      refine XS.iload X149.here hx rfl (hb hby at_208) rfl ?_
      show Steps p.tables e below (T149.setTop (mkF m 210 #[.val (.long q0), .second, .val (.int p1), .val (.long q2), .second, .val (.long q3), .second, .val (.long q4), .second, .val (.long q5), .second, .val (.int (1 : Int32)), .val (.int v28), .val (.int v30), .val (.long v31), .second, .val (.int v32), .val (.long v33), .second, .val (.int v34), .val (.long v35), .second, .val (.long v36), .second, .val (.long (0 : Int64)), .second, .val (.long v37), .second, .val (.long v38), .second, .val (.long v39), .second, .val (.long v41), .second, .val (.int v28), .val (.ref b149), .val (.int (0 : Int32)), .unset, .unset] [(.int (0 : Int32)), (.long (((1 : Int64) <<< (v32 &&& 0x3f).toInt64) - (1 : Int64))), (.ref b149)])) _
      rw [← hv43]
      show Steps p.tables e below (T149.setTop (mkF m 210 #[.val (.long q0), .second, .val (.int p1), .val (.long q2), .second, .val (.long q3), .second, .val (.long q4), .second, .val (.long q5), .second, .val (.int (1 : Int32)), .val (.int v28), .val (.int v30), .val (.long v31), .second, .val (.int v32), .val (.long v33), .second, .val (.int v34), .val (.long v35), .second, .val (.long v36), .second, .val (.long (0 : Int64)), .second, .val (.long v37), .second, .val (.long v38), .second, .val (.long v39), .second, .val (.long v41), .second, .val (.int v28), .val (.ref b149), .val (.int (0 : Int32)), .unset, .unset] [(.int (0 : Int32)), (.long v43), (.ref b149)])) _
      refine st153 _ ?_
      show Steps p.tables e below (T153.setTop (mkF m 213 #[.val (.long q0), .second, .val (.int p1), .val (.long q2), .second, .val (.long q3), .second, .val (.long q4), .second, .val (.long q5), .second, .val (.int (1 : Int32)), .val (.int v28), .val (.int v30), .val (.long v31), .second, .val (.int v32), .val (.long v33), .second, .val (.int v34), .val (.long v35), .second, .val (.long v36), .second, .val (.long (0 : Int64)), .second, .val (.long v37), .second, .val (.long v38), .second, .val (.long v39), .second, .val (.long v41), .second, .val (.int v28), .val (.ref b149), .val (.int (0 : Int32)), .unset, .unset] [])) _
      refine XS.iload X153.here hx rfl (hb hby at_213) rfl ?_
      refine XS.iload X153.here hx rfl (hb hby at_215) rfl ?_
      refine XS.iadd X153.here hx rfl (hb hby at_217) rfl ?_
      show Steps p.tables e below (T153.setTop (mkF m 218 #[.val (.long q0), .second, .val (.int p1), .val (.long q2), .second, .val (.long q3), .second, .val (.long q4), .second, .val (.long q5), .second, .val (.int (1 : Int32)), .val (.int v28), .val (.int v30), .val (.long v31), .second, .val (.int v32), .val (.long v33), .second, .val (.int v34), .val (.long v35), .second, .val (.long v36), .second, .val (.long (0 : Int64)), .second, .val (.long v37), .second, .val (.long v38), .second, .val (.long v39), .second, .val (.long v41), .second, .val (.int v28), .val (.ref b149), .val (.int (0 : Int32)), .unset, .unset] [(.int ((0 : Int32) + v32))])) _
      refine XS.iconst X153.here hx rfl (hb hby at_218) ?_
      refine XS.iadd X153.here hx rfl (hb hby at_219) rfl ?_
      show Steps p.tables e below (T153.setTop (mkF m 220 #[.val (.long q0), .second, .val (.int p1), .val (.long q2), .second, .val (.long q3), .second, .val (.long q4), .second, .val (.long q5), .second, .val (.int (1 : Int32)), .val (.int v28), .val (.int v30), .val (.long v31), .second, .val (.int v32), .val (.long v33), .second, .val (.int v34), .val (.long v35), .second, .val (.long v36), .second, .val (.long (0 : Int64)), .second, .val (.long v37), .second, .val (.long v38), .second, .val (.long v39), .second, .val (.long v41), .second, .val (.int v28), .val (.ref b149), .val (.int (0 : Int32)), .unset, .unset] [(.int (((0 : Int32) + v32) + (1 : Int32)))])) _
      rw [← hv45]
      show Steps p.tables e below (T153.setTop (mkF m 220 #[.val (.long q0), .second, .val (.int p1), .val (.long q2), .second, .val (.long q3), .second, .val (.long q4), .second, .val (.long q5), .second, .val (.int (1 : Int32)), .val (.int v28), .val (.int v30), .val (.long v31), .second, .val (.int v32), .val (.long v33), .second, .val (.int v34), .val (.long v35), .second, .val (.long v36), .second, .val (.long (0 : Int64)), .second, .val (.long v37), .second, .val (.long v38), .second, .val (.long v39), .second, .val (.long v41), .second, .val (.int v28), .val (.ref b149), .val (.int (0 : Int32)), .unset, .unset] [(.int v45)])) _
      refine XS.istore X153.here hx rfl (hb hby at_220) rfl (l' := #[.val (.long q0), .second, .val (.int p1), .val (.long q2), .second, .val (.long q3), .second, .val (.long q4), .second, .val (.long q5), .second, .val (.int (1 : Int32)), .val (.int v28), .val (.int v30), .val (.long v31), .second, .val (.int v32), .val (.long v33), .second, .val (.int v34), .val (.long v35), .second, .val (.long v36), .second, .val (.long (0 : Int64)), .second, .val (.long v37), .second, .val (.long v38), .second, .val (.long v39), .second, .val (.long v41), .second, .val (.int v28), .val (.ref b149), .val (.int v45), .unset, .unset]) rfl ?_
      show Steps p.tables e below (T153.setTop (mkF m 222 #[.val (.long q0), .second, .val (.int p1), .val (.long q2), .second, .val (.long q3), .second, .val (.long q4), .second, .val (.long q5), .second, .val (.int (1 : Int32)), .val (.int v28), .val (.int v30), .val (.long v31), .second, .val (.int v32), .val (.long v33), .second, .val (.int v34), .val (.long v35), .second, .val (.long v36), .second, .val (.long (0 : Int64)), .second, .val (.long v37), .second, .val (.long v38), .second, .val (.long v39), .second, .val (.long v41), .second, .val (.int v28), .val (.ref b149), .val (.int v45), .unset, .unset] [])) _
      refine XS.aload X153.here hx rfl (hb hby at_222) rfl rfl ?_
      refine XS.lload X153.here hx rfl (hb hby at_224) rfl ?_
      refine XS.iload X153.here hx rfl (hb hby at_226) rfl ?_
      show Steps p.tables e below (T153.setTop (mkF m 228 #[.val (.long q0), .second, .val (.int p1), .val (.long q2), .second, .val (.long q3), .second, .val (.long q4), .second, .val (.long q5), .second, .val (.int (1 : Int32)), .val (.int v28), .val (.int v30), .val (.long v31), .second, .val (.int v32), .val (.long v33), .second, .val (.int v34), .val (.long v35), .second, .val (.long v36), .second, .val (.long (0 : Int64)), .second, .val (.long v37), .second, .val (.long v38), .second, .val (.long v39), .second, .val (.long v41), .second, .val (.int v28), .val (.ref b149), .val (.int v45), .unset, .unset] [(.int v45), (.long v33), (.ref b149)])) _
      refine st156 _ ?_
      show Steps p.tables e below (T156.setTop (mkF m 231 #[.val (.long q0), .second, .val (.int p1), .val (.long q2), .second, .val (.long q3), .second, .val (.long q4), .second, .val (.long q5), .second, .val (.int (1 : Int32)), .val (.int v28), .val (.int v30), .val (.long v31), .second, .val (.int v32), .val (.long v33), .second, .val (.int v34), .val (.long v35), .second, .val (.long v36), .second, .val (.long (0 : Int64)), .second, .val (.long v37), .second, .val (.long v38), .second, .val (.long v39), .second, .val (.long v41), .second, .val (.int v28), .val (.ref b149), .val (.int v45), .unset, .unset] [])) _
      refine XS.iload X156.here hx rfl (hb hby at_231) rfl ?_
      refine XS.iload X156.here hx rfl (hb hby at_233) rfl ?_
      refine XS.iadd X156.here hx rfl (hb hby at_235) rfl ?_
      show Steps p.tables e below (T156.setTop (mkF m 236 #[.val (.long q0), .second, .val (.int p1), .val (.long q2), .second, .val (.long q3), .second, .val (.long q4), .second, .val (.long q5), .second, .val (.int (1 : Int32)), .val (.int v28), .val (.int v30), .val (.long v31), .second, .val (.int v32), .val (.long v33), .second, .val (.int v34), .val (.long v35), .second, .val (.long v36), .second, .val (.long (0 : Int64)), .second, .val (.long v37), .second, .val (.long v38), .second, .val (.long v39), .second, .val (.long v41), .second, .val (.int v28), .val (.ref b149), .val (.int v45), .unset, .unset] [(.int (v45 + v28))])) _
      rw [← hv47]
      show Steps p.tables e below (T156.setTop (mkF m 236 #[.val (.long q0), .second, .val (.int p1), .val (.long q2), .second, .val (.long q3), .second, .val (.long q4), .second, .val (.long q5), .second, .val (.int (1 : Int32)), .val (.int v28), .val (.int v30), .val (.long v31), .second, .val (.int v32), .val (.long v33), .second, .val (.int v34), .val (.long v35), .second, .val (.long v36), .second, .val (.long (0 : Int64)), .second, .val (.long v37), .second, .val (.long v38), .second, .val (.long v39), .second, .val (.long v41), .second, .val (.int v28), .val (.ref b149), .val (.int v45), .unset, .unset] [(.int v47)])) _
      refine XS.istore X156.here hx rfl (hb hby at_236) rfl (l' := #[.val (.long q0), .second, .val (.int p1), .val (.long q2), .second, .val (.long q3), .second, .val (.long q4), .second, .val (.long q5), .second, .val (.int (1 : Int32)), .val (.int v28), .val (.int v30), .val (.long v31), .second, .val (.int v32), .val (.long v33), .second, .val (.int v34), .val (.long v35), .second, .val (.long v36), .second, .val (.long (0 : Int64)), .second, .val (.long v37), .second, .val (.long v38), .second, .val (.long v39), .second, .val (.long v41), .second, .val (.int v28), .val (.ref b149), .val (.int v47), .unset, .unset]) rfl ?_
      show Steps p.tables e below (T156.setTop (mkF m 238 #[.val (.long q0), .second, .val (.int p1), .val (.long q2), .second, .val (.long q3), .second, .val (.long q4), .second, .val (.long q5), .second, .val (.int (1 : Int32)), .val (.int v28), .val (.int v30), .val (.long v31), .second, .val (.int v32), .val (.long v33), .second, .val (.int v34), .val (.long v35), .second, .val (.long v36), .second, .val (.long (0 : Int64)), .second, .val (.long v37), .second, .val (.long v38), .second, .val (.long v39), .second, .val (.long v41), .second, .val (.int v28), .val (.ref b149), .val (.int v47), .unset, .unset] [])) _
      refine XS.iload X156.here hx rfl (hb hby at_238) rfl ?_
      refine XS.iconst X156.here hx rfl (hb hby at_240) ?_
      refine XS.icmpYes X156.here hx rfl (pc0 := 241) (pc' := 282) rfl (hb hby at_241) rfl (feq (by decide : ¬ ((1 : Int32) = (2 : Int32)))).2 (by decide) (by decide) ?_
      show Steps p.tables e below (T156.setTop (mkF m 282 #[.val (.long q0), .second, .val (.int p1), .val (.long q2), .second, .val (.long q3), .second, .val (.long q4), .second, .val (.long q5), .second, .val (.int (1 : Int32)), .val (.int v28), .val (.int v30), .val (.long v31), .second, .val (.int v32), .val (.long v33), .second, .val (.int v34), .val (.long v35), .second, .val (.long v36), .second, .val (.long (0 : Int64)), .second, .val (.long v37), .second, .val (.long v38), .second, .val (.long v39), .second, .val (.long v41), .second, .val (.int v28), .val (.ref b149), .val (.int v47), .unset, .unset] [])) _
      refine XS.aload X156.here hx rfl (hb hby at_282) rfl rfl ?_
      refine XS.lload X156.here hx rfl (hb hby at_284) rfl ?_
      refine XS.iload X156.here hx rfl (hb hby at_286) rfl ?_
      show Steps p.tables e below (T156.setTop (mkF m 288 #[.val (.long q0), .second, .val (.int p1), .val (.long q2), .second, .val (.long q3), .second, .val (.long q4), .second, .val (.long q5), .second, .val (.int (1 : Int32)), .val (.int v28), .val (.int v30), .val (.long v31), .second, .val (.int v32), .val (.long v33), .second, .val (.int v34), .val (.long v35), .second, .val (.long v36), .second, .val (.long (0 : Int64)), .second, .val (.long v37), .second, .val (.long v38), .second, .val (.long v39), .second, .val (.long v41), .second, .val (.int v28), .val (.ref b149), .val (.int v47), .unset, .unset] [(.int v47), (.long q5), (.ref b149)])) _
      refine st159 _ ?_
      show Steps p.tables e below (T159.setTop (mkF m 291 #[.val (.long q0), .second, .val (.int p1), .val (.long q2), .second, .val (.long q3), .second, .val (.long q4), .second, .val (.long q5), .second, .val (.int (1 : Int32)), .val (.int v28), .val (.int v30), .val (.long v31), .second, .val (.int v32), .val (.long v33), .second, .val (.int v34), .val (.long v35), .second, .val (.long v36), .second, .val (.long (0 : Int64)), .second, .val (.long v37), .second, .val (.long v38), .second, .val (.long v39), .second, .val (.long v41), .second, .val (.int v28), .val (.ref b149), .val (.int v47), .unset, .unset] [])) _
      refine XS.bipush X159.here hx rfl (hb hby at_291) ?_
      show Steps p.tables e below (T159.setTop (mkF m 293 #[.val (.long q0), .second, .val (.int p1), .val (.long q2), .second, .val (.long q3), .second, .val (.long q4), .second, .val (.long q5), .second, .val (.int (1 : Int32)), .val (.int v28), .val (.int v30), .val (.long v31), .second, .val (.int v32), .val (.long v33), .second, .val (.int v34), .val (.long v35), .second, .val (.long v36), .second, .val (.long (0 : Int64)), .second, .val (.long v37), .second, .val (.long v38), .second, .val (.long v39), .second, .val (.long v41), .second, .val (.int v28), .val (.ref b149), .val (.int v47), .unset, .unset] [(.int (24 : Int32))])) _
      refine st162 _ ?_
      show Steps p.tables e below (T162.setTop (mkF m 295 #[.val (.long q0), .second, .val (.int p1), .val (.long q2), .second, .val (.long q3), .second, .val (.long q4), .second, .val (.long q5), .second, .val (.int (1 : Int32)), .val (.int v28), .val (.int v30), .val (.long v31), .second, .val (.int v32), .val (.long v33), .second, .val (.int v34), .val (.long v35), .second, .val (.long v36), .second, .val (.long (0 : Int64)), .second, .val (.long v37), .second, .val (.long v38), .second, .val (.long v39), .second, .val (.long v41), .second, .val (.int v28), .val (.ref b149), .val (.int v47), .unset, .unset] [(.ref b162)])) _
      refine XS.astore X162.here hx rfl (hb hby at_295) rfl rfl (l' := #[.val (.long q0), .second, .val (.int p1), .val (.long q2), .second, .val (.long q3), .second, .val (.long q4), .second, .val (.long q5), .second, .val (.int (1 : Int32)), .val (.int v28), .val (.int v30), .val (.long v31), .second, .val (.int v32), .val (.long v33), .second, .val (.int v34), .val (.long v35), .second, .val (.long v36), .second, .val (.long (0 : Int64)), .second, .val (.long v37), .second, .val (.long v38), .second, .val (.long v39), .second, .val (.long v41), .second, .val (.int v28), .val (.ref b149), .val (.int v47), .val (.ref b162), .unset]) rfl ?_
      show Steps p.tables e below (T162.setTop (mkF m 297 #[.val (.long q0), .second, .val (.int p1), .val (.long q2), .second, .val (.long q3), .second, .val (.long q4), .second, .val (.long q5), .second, .val (.int (1 : Int32)), .val (.int v28), .val (.int v30), .val (.long v31), .second, .val (.int v32), .val (.long v33), .second, .val (.int v34), .val (.long v35), .second, .val (.long v36), .second, .val (.long (0 : Int64)), .second, .val (.long v37), .second, .val (.long v38), .second, .val (.long v39), .second, .val (.long v41), .second, .val (.int v28), .val (.ref b149), .val (.int v47), .val (.ref b162), .unset] [])) _
      refine XS.aload X162.here hx rfl (hb hby at_297) rfl rfl ?_
      refine XS.iconst X162.here hx rfl (hb hby at_299) ?_
      refine XS.aload X162.here hx rfl (hb hby at_300) rfl rfl ?_
      show Steps p.tables e below (T162.setTop (mkF m 302 #[.val (.long q0), .second, .val (.int p1), .val (.long q2), .second, .val (.long q3), .second, .val (.long q4), .second, .val (.long q5), .second, .val (.int (1 : Int32)), .val (.int v28), .val (.int v30), .val (.long v31), .second, .val (.int v32), .val (.long v33), .second, .val (.int v34), .val (.long v35), .second, .val (.long v36), .second, .val (.long (0 : Int64)), .second, .val (.long v37), .second, .val (.long v38), .second, .val (.long v39), .second, .val (.long v41), .second, .val (.int v28), .val (.ref b149), .val (.int v47), .val (.ref b162), .unset] [(.ref b149), (.int (0 : Int32)), (.ref b162)])) _
      refine XS.iconst X162.here hx rfl (hb hby at_302) ?_
      show Steps p.tables e below (T162.setTop (mkF m 303 #[.val (.long q0), .second, .val (.int p1), .val (.long q2), .second, .val (.long q3), .second, .val (.long q4), .second, .val (.long q5), .second, .val (.int (1 : Int32)), .val (.int v28), .val (.int v30), .val (.long v31), .second, .val (.int v32), .val (.long v33), .second, .val (.int v34), .val (.long v35), .second, .val (.long v36), .second, .val (.long (0 : Int64)), .second, .val (.long v37), .second, .val (.long v38), .second, .val (.long v39), .second, .val (.long v41), .second, .val (.int v28), .val (.ref b149), .val (.int v47), .val (.ref b162), .unset] [(.int (0 : Int32)), (.ref b149), (.int (0 : Int32)), (.ref b162)])) _
      refine own_ldJ X162 hx hZ e162 F163 (j := (0 : Int32)) hin303_167 (g := (mkF m 303 #[.val (.long q0), .second, .val (.int p1), .val (.long q2), .second, .val (.long q3), .second, .val (.long q4), .second, .val (.long q5), .second, .val (.int (1 : Int32)), .val (.int v28), .val (.int v30), .val (.long v31), .second, .val (.int v32), .val (.long v33), .second, .val (.int v34), .val (.long v35), .second, .val (.long v36), .second, .val (.long (0 : Int64)), .second, .val (.long v37), .second, .val (.long v38), .second, .val (.long v39), .second, .val (.long v41), .second, .val (.int v28), .val (.ref b149), .val (.int v47), .val (.ref b162), .unset] [(.int (0 : Int32)), (.ref b149), (.int (0 : Int32)), (.ref b162)])) rfl rfl (hb hby at_303) _ ?_
      show Steps p.tables e below (T162.setTop (mkF m 304 #[.val (.long q0), .second, .val (.int p1), .val (.long q2), .second, .val (.long q3), .second, .val (.long q4), .second, .val (.long q5), .second, .val (.int (1 : Int32)), .val (.int v28), .val (.int v30), .val (.long v31), .second, .val (.int v32), .val (.long v33), .second, .val (.int v34), .val (.long v35), .second, .val (.long v36), .second, .val (.long (0 : Int64)), .second, .val (.long v37), .second, .val (.long v38), .second, .val (.long v39), .second, .val (.long v41), .second, .val (.int v28), .val (.ref b149), .val (.int v47), .val (.ref b162), .unset] [(.long (v48 0)), (.int (0 : Int32)), (.ref b162)])) _
      rw [← hv50]
      show Steps p.tables e below (T162.setTop (mkF m 304 #[.val (.long q0), .second, .val (.int p1), .val (.long q2), .second, .val (.long q3), .second, .val (.long q4), .second, .val (.long q5), .second, .val (.int (1 : Int32)), .val (.int v28), .val (.int v30), .val (.long v31), .second, .val (.int v32), .val (.long v33), .second, .val (.int v34), .val (.long v35), .second, .val (.long v36), .second, .val (.long (0 : Int64)), .second, .val (.long v37), .second, .val (.long v38), .second, .val (.long v39), .second, .val (.long v41), .second, .val (.int v28), .val (.ref b149), .val (.int v47), .val (.ref b162), .unset] [(.long v50), (.int (0 : Int32)), (.ref b162)])) _
      refine st168 _ ?_
      show Steps p.tables e below (T168.setTop (mkF m 307 #[.val (.long q0), .second, .val (.int p1), .val (.long q2), .second, .val (.long q3), .second, .val (.long q4), .second, .val (.long q5), .second, .val (.int (1 : Int32)), .val (.int v28), .val (.int v30), .val (.long v31), .second, .val (.int v32), .val (.long v33), .second, .val (.int v34), .val (.long v35), .second, .val (.long v36), .second, .val (.long (0 : Int64)), .second, .val (.long v37), .second, .val (.long v38), .second, .val (.long v39), .second, .val (.long v41), .second, .val (.int v28), .val (.ref b149), .val (.int v47), .val (.ref b162), .unset] [])) _
      refine XS.aload X168.here hx rfl (hb hby at_307) rfl rfl ?_
      refine XS.bipush X168.here hx rfl (hb hby at_309) ?_
      refine XS.aload X168.here hx rfl (hb hby at_311) rfl rfl ?_
      show Steps p.tables e below (T168.setTop (mkF m 313 #[.val (.long q0), .second, .val (.int p1), .val (.long q2), .second, .val (.long q3), .second, .val (.long q4), .second, .val (.long q5), .second, .val (.int (1 : Int32)), .val (.int v28), .val (.int v30), .val (.long v31), .second, .val (.int v32), .val (.long v33), .second, .val (.int v34), .val (.long v35), .second, .val (.long v36), .second, .val (.long (0 : Int64)), .second, .val (.long v37), .second, .val (.long v38), .second, .val (.long v39), .second, .val (.long v41), .second, .val (.int v28), .val (.ref b149), .val (.int v47), .val (.ref b162), .unset] [(.ref b149), (.int (8 : Int32)), (.ref b162)])) _
      refine XS.iconst X168.here hx rfl (hb hby at_313) ?_
      show Steps p.tables e below (T168.setTop (mkF m 314 #[.val (.long q0), .second, .val (.int p1), .val (.long q2), .second, .val (.long q3), .second, .val (.long q4), .second, .val (.long q5), .second, .val (.int (1 : Int32)), .val (.int v28), .val (.int v30), .val (.long v31), .second, .val (.int v32), .val (.long v33), .second, .val (.int v34), .val (.long v35), .second, .val (.long v36), .second, .val (.long (0 : Int64)), .second, .val (.long v37), .second, .val (.long v38), .second, .val (.long v39), .second, .val (.long v41), .second, .val (.int v28), .val (.ref b149), .val (.int v47), .val (.ref b162), .unset] [(.int (1 : Int32)), (.ref b149), (.int (8 : Int32)), (.ref b162)])) _
      refine own_ldJ X168 hx hZ (rfl : T168.heap = T168.heap) F169 (j := (1 : Int32)) hin314_172 (g := (mkF m 314 #[.val (.long q0), .second, .val (.int p1), .val (.long q2), .second, .val (.long q3), .second, .val (.long q4), .second, .val (.long q5), .second, .val (.int (1 : Int32)), .val (.int v28), .val (.int v30), .val (.long v31), .second, .val (.int v32), .val (.long v33), .second, .val (.int v34), .val (.long v35), .second, .val (.long v36), .second, .val (.long (0 : Int64)), .second, .val (.long v37), .second, .val (.long v38), .second, .val (.long v39), .second, .val (.long v41), .second, .val (.int v28), .val (.ref b149), .val (.int v47), .val (.ref b162), .unset] [(.int (1 : Int32)), (.ref b149), (.int (8 : Int32)), (.ref b162)])) rfl rfl (hb hby at_314) _ ?_
      show Steps p.tables e below (T168.setTop (mkF m 315 #[.val (.long q0), .second, .val (.int p1), .val (.long q2), .second, .val (.long q3), .second, .val (.long q4), .second, .val (.long q5), .second, .val (.int (1 : Int32)), .val (.int v28), .val (.int v30), .val (.long v31), .second, .val (.int v32), .val (.long v33), .second, .val (.int v34), .val (.long v35), .second, .val (.long v36), .second, .val (.long (0 : Int64)), .second, .val (.long v37), .second, .val (.long v38), .second, .val (.long v39), .second, .val (.long v41), .second, .val (.int v28), .val (.ref b149), .val (.int v47), .val (.ref b162), .unset] [(.long (v48 1)), (.int (8 : Int32)), (.ref b162)])) _
      rw [← hv52]
      show Steps p.tables e below (T168.setTop (mkF m 315 #[.val (.long q0), .second, .val (.int p1), .val (.long q2), .second, .val (.long q3), .second, .val (.long q4), .second, .val (.long q5), .second, .val (.int (1 : Int32)), .val (.int v28), .val (.int v30), .val (.long v31), .second, .val (.int v32), .val (.long v33), .second, .val (.int v34), .val (.long v35), .second, .val (.long v36), .second, .val (.long (0 : Int64)), .second, .val (.long v37), .second, .val (.long v38), .second, .val (.long v39), .second, .val (.long v41), .second, .val (.int v28), .val (.ref b149), .val (.int v47), .val (.ref b162), .unset] [(.long v52), (.int (8 : Int32)), (.ref b162)])) _
      refine st173 _ ?_
      show Steps p.tables e below (T173.setTop (mkF m 318 #[.val (.long q0), .second, .val (.int p1), .val (.long q2), .second, .val (.long q3), .second, .val (.long q4), .second, .val (.long q5), .second, .val (.int (1 : Int32)), .val (.int v28), .val (.int v30), .val (.long v31), .second, .val (.int v32), .val (.long v33), .second, .val (.int v34), .val (.long v35), .second, .val (.long v36), .second, .val (.long (0 : Int64)), .second, .val (.long v37), .second, .val (.long v38), .second, .val (.long v39), .second, .val (.long v41), .second, .val (.int v28), .val (.ref b149), .val (.int v47), .val (.ref b162), .unset] [])) _
      refine XS.aload X173.here hx rfl (hb hby at_318) rfl rfl ?_
      refine XS.bipush X173.here hx rfl (hb hby at_320) ?_
      refine XS.aload X173.here hx rfl (hb hby at_322) rfl rfl ?_
      show Steps p.tables e below (T173.setTop (mkF m 324 #[.val (.long q0), .second, .val (.int p1), .val (.long q2), .second, .val (.long q3), .second, .val (.long q4), .second, .val (.long q5), .second, .val (.int (1 : Int32)), .val (.int v28), .val (.int v30), .val (.long v31), .second, .val (.int v32), .val (.long v33), .second, .val (.int v34), .val (.long v35), .second, .val (.long v36), .second, .val (.long (0 : Int64)), .second, .val (.long v37), .second, .val (.long v38), .second, .val (.long v39), .second, .val (.long v41), .second, .val (.int v28), .val (.ref b149), .val (.int v47), .val (.ref b162), .unset] [(.ref b149), (.int (16 : Int32)), (.ref b162)])) _
      refine XS.iconst X173.here hx rfl (hb hby at_324) ?_
      show Steps p.tables e below (T173.setTop (mkF m 325 #[.val (.long q0), .second, .val (.int p1), .val (.long q2), .second, .val (.long q3), .second, .val (.long q4), .second, .val (.long q5), .second, .val (.int (1 : Int32)), .val (.int v28), .val (.int v30), .val (.long v31), .second, .val (.int v32), .val (.long v33), .second, .val (.int v34), .val (.long v35), .second, .val (.long v36), .second, .val (.long (0 : Int64)), .second, .val (.long v37), .second, .val (.long v38), .second, .val (.long v39), .second, .val (.long v41), .second, .val (.int v28), .val (.ref b149), .val (.int v47), .val (.ref b162), .unset] [(.int (2 : Int32)), (.ref b149), (.int (16 : Int32)), (.ref b162)])) _
      refine own_ldJ X173 hx hZ (rfl : T173.heap = T173.heap) F174 (j := (2 : Int32)) hin325_177 (g := (mkF m 325 #[.val (.long q0), .second, .val (.int p1), .val (.long q2), .second, .val (.long q3), .second, .val (.long q4), .second, .val (.long q5), .second, .val (.int (1 : Int32)), .val (.int v28), .val (.int v30), .val (.long v31), .second, .val (.int v32), .val (.long v33), .second, .val (.int v34), .val (.long v35), .second, .val (.long v36), .second, .val (.long (0 : Int64)), .second, .val (.long v37), .second, .val (.long v38), .second, .val (.long v39), .second, .val (.long v41), .second, .val (.int v28), .val (.ref b149), .val (.int v47), .val (.ref b162), .unset] [(.int (2 : Int32)), (.ref b149), (.int (16 : Int32)), (.ref b162)])) rfl rfl (hb hby at_325) _ ?_
      show Steps p.tables e below (T173.setTop (mkF m 326 #[.val (.long q0), .second, .val (.int p1), .val (.long q2), .second, .val (.long q3), .second, .val (.long q4), .second, .val (.long q5), .second, .val (.int (1 : Int32)), .val (.int v28), .val (.int v30), .val (.long v31), .second, .val (.int v32), .val (.long v33), .second, .val (.int v34), .val (.long v35), .second, .val (.long v36), .second, .val (.long (0 : Int64)), .second, .val (.long v37), .second, .val (.long v38), .second, .val (.long v39), .second, .val (.long v41), .second, .val (.int v28), .val (.ref b149), .val (.int v47), .val (.ref b162), .unset] [(.long (v48 2)), (.int (16 : Int32)), (.ref b162)])) _
      rw [← hv54]
      show Steps p.tables e below (T173.setTop (mkF m 326 #[.val (.long q0), .second, .val (.int p1), .val (.long q2), .second, .val (.long q3), .second, .val (.long q4), .second, .val (.long q5), .second, .val (.int (1 : Int32)), .val (.int v28), .val (.int v30), .val (.long v31), .second, .val (.int v32), .val (.long v33), .second, .val (.int v34), .val (.long v35), .second, .val (.long v36), .second, .val (.long (0 : Int64)), .second, .val (.long v37), .second, .val (.long v38), .second, .val (.long v39), .second, .val (.long v41), .second, .val (.int v28), .val (.ref b149), .val (.int v47), .val (.ref b162), .unset] [(.long v54), (.int (16 : Int32)), (.ref b162)])) _
      refine st178 _ ?_
      show Steps p.tables e below (T178.setTop (mkF m 329 #[.val (.long q0), .second, .val (.int p1), .val (.long q2), .second, .val (.long q3), .second, .val (.long q4), .second, .val (.long q5), .second, .val (.int (1 : Int32)), .val (.int v28), .val (.int v30), .val (.long v31), .second, .val (.int v32), .val (.long v33), .second, .val (.int v34), .val (.long v35), .second, .val (.long v36), .second, .val (.long (0 : Int64)), .second, .val (.long v37), .second, .val (.long v38), .second, .val (.long v39), .second, .val (.long v41), .second, .val (.int v28), .val (.ref b149), .val (.int v47), .val (.ref b162), .unset] [])) _
      refine XS.lload X178.here hx rfl (hb hby at_329) rfl ?_
      refine XS.iload X178.here hx rfl (hb hby at_331) rfl ?_
      refine XS.iload X178.here hx rfl (hb hby at_333) rfl ?_
      show Steps p.tables e below (T178.setTop (mkF m 335 #[.val (.long q0), .second, .val (.int p1), .val (.long q2), .second, .val (.long q3), .second, .val (.long q4), .second, .val (.long q5), .second, .val (.int (1 : Int32)), .val (.int v28), .val (.int v30), .val (.long v31), .second, .val (.int v32), .val (.long v33), .second, .val (.int v34), .val (.long v35), .second, .val (.long v36), .second, .val (.long (0 : Int64)), .second, .val (.long v37), .second, .val (.long v38), .second, .val (.long v39), .second, .val (.long v41), .second, .val (.int v28), .val (.ref b149), .val (.int v47), .val (.ref b162), .unset] [(.int (1 : Int32)), (.int v28), (.long v37)])) _
      refine XS.aload X178.here hx rfl (hb hby at_335) rfl rfl ?_
      refine XS.lload X178.here hx rfl (hb hby at_337) rfl ?_
      show Steps p.tables e below (T178.setTop (mkF m 339 #[.val (.long q0), .second, .val (.int p1), .val (.long q2), .second, .val (.long q3), .second, .val (.long q4), .second, .val (.long q5), .second, .val (.int (1 : Int32)), .val (.int v28), .val (.int v30), .val (.long v31), .second, .val (.int v32), .val (.long v33), .second, .val (.int v34), .val (.long v35), .second, .val (.long v36), .second, .val (.long (0 : Int64)), .second, .val (.long v37), .second, .val (.long v38), .second, .val (.long v39), .second, .val (.long v41), .second, .val (.int v28), .val (.ref b149), .val (.int v47), .val (.ref b162), .unset] [(.long v41), (.ref b162), (.int (1 : Int32)), (.int v28), (.long v37)])) _
      refine st182 _ ?_
      show Steps p.tables e below (T182.setTop (mkF m 342 #[.val (.long q0), .second, .val (.int p1), .val (.long q2), .second, .val (.long q3), .second, .val (.long q4), .second, .val (.long q5), .second, .val (.int (1 : Int32)), .val (.int v28), .val (.int v30), .val (.long v31), .second, .val (.int v32), .val (.long v33), .second, .val (.int v34), .val (.long v35), .second, .val (.long v36), .second, .val (.long (0 : Int64)), .second, .val (.long v37), .second, .val (.long v38), .second, .val (.long v39), .second, .val (.long v41), .second, .val (.int v28), .val (.ref b149), .val (.int v47), .val (.ref b162), .unset] [(.ref b182_0)])) _
      refine XS.astore X182.here hx rfl (hb hby at_342) rfl rfl (l' := #[.val (.long q0), .second, .val (.int p1), .val (.long q2), .second, .val (.long q3), .second, .val (.long q4), .second, .val (.long q5), .second, .val (.int (1 : Int32)), .val (.int v28), .val (.int v30), .val (.long v31), .second, .val (.int v32), .val (.long v33), .second, .val (.int v34), .val (.long v35), .second, .val (.long v36), .second, .val (.long (0 : Int64)), .second, .val (.long v37), .second, .val (.long v38), .second, .val (.long v39), .second, .val (.long v41), .second, .val (.int v28), .val (.ref b149), .val (.int v47), .val (.ref b162), .val (.ref b182_0)]) rfl ?_
      show Steps p.tables e below (T182.setTop (mkF m 344 #[.val (.long q0), .second, .val (.int p1), .val (.long q2), .second, .val (.long q3), .second, .val (.long q4), .second, .val (.long q5), .second, .val (.int (1 : Int32)), .val (.int v28), .val (.int v30), .val (.long v31), .second, .val (.int v32), .val (.long v33), .second, .val (.int v34), .val (.long v35), .second, .val (.long v36), .second, .val (.long (0 : Int64)), .second, .val (.long v37), .second, .val (.long v38), .second, .val (.long v39), .second, .val (.long v41), .second, .val (.int v28), .val (.ref b149), .val (.int v47), .val (.ref b162), .val (.ref b182_0)] [])) _
      refine XS.aload X182.here hx rfl (hb hby at_344) rfl rfl ?_
      show Steps p.tables e below (T182.setTop (mkF m 346 #[.val (.long q0), .second, .val (.int p1), .val (.long q2), .second, .val (.long q3), .second, .val (.long q4), .second, .val (.long q5), .second, .val (.int (1 : Int32)), .val (.int v28), .val (.int v30), .val (.long v31), .second, .val (.int v32), .val (.long v33), .second, .val (.int v34), .val (.long v35), .second, .val (.long v36), .second, .val (.long (0 : Int64)), .second, .val (.long v37), .second, .val (.long v38), .second, .val (.long v39), .second, .val (.long v41), .second, .val (.int v28), .val (.ref b149), .val (.int v47), .val (.ref b162), .val (.ref b182_0)] [(.ref b182_0)])) _
      refine own_lenI X182 hx hZ (rfl : T182.heap = T182.heap) F182_1n (g := (mkF m 346 #[.val (.long q0), .second, .val (.int p1), .val (.long q2), .second, .val (.long q3), .second, .val (.long q4), .second, .val (.long q5), .second, .val (.int (1 : Int32)), .val (.int v28), .val (.int v30), .val (.long v31), .second, .val (.int v32), .val (.long v33), .second, .val (.int v34), .val (.long v35), .second, .val (.long v36), .second, .val (.long (0 : Int64)), .second, .val (.long v37), .second, .val (.long v38), .second, .val (.long v39), .second, .val (.long v41), .second, .val (.int v28), .val (.ref b149), .val (.int v47), .val (.ref b162), .val (.ref b182_0)] [(.ref b182_0)])) rfl rfl (hb hby at_346) _ ?_
      show Steps p.tables e below (T182.setTop (mkF m 347 #[.val (.long q0), .second, .val (.int p1), .val (.long q2), .second, .val (.long q3), .second, .val (.long q4), .second, .val (.long q5), .second, .val (.int (1 : Int32)), .val (.int v28), .val (.int v30), .val (.long v31), .second, .val (.int v32), .val (.long v33), .second, .val (.int v34), .val (.long v35), .second, .val (.long v36), .second, .val (.long (0 : Int64)), .second, .val (.long v37), .second, .val (.long v38), .second, .val (.long v39), .second, .val (.long v41), .second, .val (.int v28), .val (.ref b149), .val (.int v47), .val (.ref b162), .val (.ref b182_0)] [(.int (2 : Int32))])) _
      refine XS.iload X182.here hx rfl (hb hby at_347) rfl ?_
      refine XS.iconst X182.here hx rfl (hb hby at_349) ?_
      refine XS.iadd X182.here hx rfl (hb hby at_350) rfl ?_
      show Steps p.tables e below (T182.setTop (mkF m 351 #[.val (.long q0), .second, .val (.int p1), .val (.long q2), .second, .val (.long q3), .second, .val (.long q4), .second, .val (.long q5), .second, .val (.int (1 : Int32)), .val (.int v28), .val (.int v30), .val (.long v31), .second, .val (.int v32), .val (.long v33), .second, .val (.int v34), .val (.long v35), .second, .val (.long v36), .second, .val (.long (0 : Int64)), .second, .val (.long v37), .second, .val (.long v38), .second, .val (.long v39), .second, .val (.long v41), .second, .val (.int v28), .val (.ref b149), .val (.int v47), .val (.ref b162), .val (.ref b182_0)] [(.int (2 : Int32)), (.int (2 : Int32))])) _
      refine XS.icmpYes X182.here hx rfl (pc0 := 351) (pc' := 356) rfl (hb hby at_351) rfl (teq (by decide : (2 : Int32) = (2 : Int32))).1 (by decide) (by decide) ?_
      show Steps p.tables e below (T182.setTop (mkF m 356 #[.val (.long q0), .second, .val (.int p1), .val (.long q2), .second, .val (.long q3), .second, .val (.long q4), .second, .val (.long q5), .second, .val (.int (1 : Int32)), .val (.int v28), .val (.int v30), .val (.long v31), .second, .val (.int v32), .val (.long v33), .second, .val (.int v34), .val (.long v35), .second, .val (.long v36), .second, .val (.long (0 : Int64)), .second, .val (.long v37), .second, .val (.long v38), .second, .val (.long v39), .second, .val (.long v41), .second, .val (.int v28), .val (.ref b149), .val (.int v47), .val (.ref b162), .val (.ref b182_0)] [])) _
      refine XS.aload X182.here hx rfl (hb hby at_356) rfl rfl ?_
      refine XS.iconst X182.here hx rfl (hb hby at_358) ?_
      show Steps p.tables e below (T182.setTop (mkF m 359 #[.val (.long q0), .second, .val (.int p1), .val (.long q2), .second, .val (.long q3), .second, .val (.long q4), .second, .val (.long q5), .second, .val (.int (1 : Int32)), .val (.int v28), .val (.int v30), .val (.long v31), .second, .val (.int v32), .val (.long v33), .second, .val (.int v34), .val (.long v35), .second, .val (.long v36), .second, .val (.long (0 : Int64)), .second, .val (.long v37), .second, .val (.long v38), .second, .val (.long v39), .second, .val (.long v41), .second, .val (.int v28), .val (.ref b149), .val (.int v47), .val (.ref b162), .val (.ref b182_0)] [(.int (0 : Int32)), (.ref b182_0)])) _
      refine own_ldI X182 hx hZ (rfl : T182.heap = T182.heap) F182_1n (j := (0 : Int32)) hin359_187 (g := (mkF m 359 #[.val (.long q0), .second, .val (.int p1), .val (.long q2), .second, .val (.long q3), .second, .val (.long q4), .second, .val (.long q5), .second, .val (.int (1 : Int32)), .val (.int v28), .val (.int v30), .val (.long v31), .second, .val (.int v32), .val (.long v33), .second, .val (.int v34), .val (.long v35), .second, .val (.long v36), .second, .val (.long (0 : Int64)), .second, .val (.long v37), .second, .val (.long v38), .second, .val (.long v39), .second, .val (.long v41), .second, .val (.int v28), .val (.ref b149), .val (.int v47), .val (.ref b162), .val (.ref b182_0)] [(.int (0 : Int32)), (.ref b182_0)])) rfl rfl (hb hby at_359) _ ?_
      show Steps p.tables e below (T182.setTop (mkF m 360 #[.val (.long q0), .second, .val (.int p1), .val (.long q2), .second, .val (.long q3), .second, .val (.long q4), .second, .val (.long q5), .second, .val (.int (1 : Int32)), .val (.int v28), .val (.int v30), .val (.long v31), .second, .val (.int v32), .val (.long v33), .second, .val (.int v34), .val (.long v35), .second, .val (.long v36), .second, .val (.long (0 : Int64)), .second, .val (.long v37), .second, .val (.long v38), .second, .val (.long v39), .second, .val (.long v41), .second, .val (.int v28), .val (.ref b149), .val (.int v47), .val (.ref b162), .val (.ref b182_0)] [(.int (v56 0))])) _
      refine XS.lload X182.here hx rfl (hb hby at_360) rfl ?_
      refine XS.l2i X182.here hx rfl (hb hby at_362) rfl ?_
      show Steps p.tables e below (T182.setTop (mkF m 363 #[.val (.long q0), .second, .val (.int p1), .val (.long q2), .second, .val (.long q3), .second, .val (.long q4), .second, .val (.long q5), .second, .val (.int (1 : Int32)), .val (.int v28), .val (.int v30), .val (.long v31), .second, .val (.int v32), .val (.long v33), .second, .val (.int v34), .val (.long v35), .second, .val (.long v36), .second, .val (.long (0 : Int64)), .second, .val (.long v37), .second, .val (.long v38), .second, .val (.long v39), .second, .val (.long v41), .second, .val (.int v28), .val (.ref b149), .val (.int v47), .val (.ref b162), .val (.ref b182_0)] [(.int (v37.toInt32)), (.int (v56 0))])) _
      refine XS.icmpYes X182.here hx rfl (pc0 := 363) (pc' := 368) rfl (hb hby at_363) rfl (teq (by rw [hv56]; rfl)).1 (by decide) (by decide) ?_
      show Steps p.tables e below (T182.setTop (mkF m 368 #[.val (.long q0), .second, .val (.int p1), .val (.long q2), .second, .val (.long q3), .second, .val (.long q4), .second, .val (.long q5), .second, .val (.int (1 : Int32)), .val (.int v28), .val (.int v30), .val (.long v31), .second, .val (.int v32), .val (.long v33), .second, .val (.int v34), .val (.long v35), .second, .val (.long v36), .second, .val (.long (0 : Int64)), .second, .val (.long v37), .second, .val (.long v38), .second, .val (.long v39), .second, .val (.long v41), .second, .val (.int v28), .val (.ref b149), .val (.int v47), .val (.ref b162), .val (.ref b182_0)] [])) _
      refine XS.iload X182.here hx rfl (hb hby at_368) rfl ?_
      refine XS.iconst X182.here hx rfl (hb hby at_370) ?_
      refine XS.icmpNo X182.here hx rfl (hb hby at_371) rfl (flt (by decide : ¬ ((1 : Int32) < (1 : Int32)))).1 ?_
      show Steps p.tables e below (T182.setTop (mkF m 374 #[.val (.long q0), .second, .val (.int p1), .val (.long q2), .second, .val (.long q3), .second, .val (.long q4), .second, .val (.long q5), .second, .val (.int (1 : Int32)), .val (.int v28), .val (.int v30), .val (.long v31), .second, .val (.int v32), .val (.long v33), .second, .val (.int v34), .val (.long v35), .second, .val (.long v36), .second, .val (.long (0 : Int64)), .second, .val (.long v37), .second, .val (.long v38), .second, .val (.long v39), .second, .val (.long v41), .second, .val (.int v28), .val (.ref b149), .val (.int v47), .val (.ref b162), .val (.ref b182_0)] [])) _
      refine XS.aload X182.here hx rfl (hb hby at_374) rfl rfl ?_
      refine XS.iconst X182.here hx rfl (hb hby at_376) ?_
      show Steps p.tables e below (T182.setTop (mkF m 377 #[.val (.long q0), .second, .val (.int p1), .val (.long q2), .second, .val (.long q3), .second, .val (.long q4), .second, .val (.long q5), .second, .val (.int (1 : Int32)), .val (.int v28), .val (.int v30), .val (.long v31), .second, .val (.int v32), .val (.long v33), .second, .val (.int v34), .val (.long v35), .second, .val (.long v36), .second, .val (.long (0 : Int64)), .second, .val (.long v37), .second, .val (.long v38), .second, .val (.long v39), .second, .val (.long v41), .second, .val (.int v28), .val (.ref b149), .val (.int v47), .val (.ref b162), .val (.ref b182_0)] [(.int (1 : Int32)), (.ref b182_0)])) _
      refine own_ldI X182 hx hZ (rfl : T182.heap = T182.heap) F182_1n (j := (1 : Int32)) hin377_188 (g := (mkF m 377 #[.val (.long q0), .second, .val (.int p1), .val (.long q2), .second, .val (.long q3), .second, .val (.long q4), .second, .val (.long q5), .second, .val (.int (1 : Int32)), .val (.int v28), .val (.int v30), .val (.long v31), .second, .val (.int v32), .val (.long v33), .second, .val (.int v34), .val (.long v35), .second, .val (.long v36), .second, .val (.long (0 : Int64)), .second, .val (.long v37), .second, .val (.long v38), .second, .val (.long v39), .second, .val (.long v41), .second, .val (.int v28), .val (.ref b149), .val (.int v47), .val (.ref b162), .val (.ref b182_0)] [(.int (1 : Int32)), (.ref b182_0)])) rfl rfl (hb hby at_377) _ ?_
      show Steps p.tables e below (T182.setTop (mkF m 378 #[.val (.long q0), .second, .val (.int p1), .val (.long q2), .second, .val (.long q3), .second, .val (.long q4), .second, .val (.long q5), .second, .val (.int (1 : Int32)), .val (.int v28), .val (.int v30), .val (.long v31), .second, .val (.int v32), .val (.long v33), .second, .val (.int v34), .val (.long v35), .second, .val (.long v36), .second, .val (.long (0 : Int64)), .second, .val (.long v37), .second, .val (.long v38), .second, .val (.long v39), .second, .val (.long v41), .second, .val (.int v28), .val (.ref b149), .val (.int v47), .val (.ref b162), .val (.ref b182_0)] [(.int (v56 1))])) _
      refine XS.lload X182.here hx rfl (hb hby at_378) rfl ?_
      refine XS.l2i X182.here hx rfl (hb hby at_380) rfl ?_
      show Steps p.tables e below (T182.setTop (mkF m 381 #[.val (.long q0), .second, .val (.int p1), .val (.long q2), .second, .val (.long q3), .second, .val (.long q4), .second, .val (.long q5), .second, .val (.int (1 : Int32)), .val (.int v28), .val (.int v30), .val (.long v31), .second, .val (.int v32), .val (.long v33), .second, .val (.int v34), .val (.long v35), .second, .val (.long v36), .second, .val (.long (0 : Int64)), .second, .val (.long v37), .second, .val (.long v38), .second, .val (.long v39), .second, .val (.long v41), .second, .val (.int v28), .val (.ref b149), .val (.int v47), .val (.ref b162), .val (.ref b182_0)] [(.int (v38.toInt32)), (.int (v56 1))])) _
      refine XS.icmpYes X182.here hx rfl (pc0 := 381) (pc' := 386) rfl (hb hby at_381) rfl (teq (by rw [hv56]; exact congrArg Int64.toInt32 S1)).1 (by decide) (by decide) ?_
      show Steps p.tables e below (T182.setTop (mkF m 386 #[.val (.long q0), .second, .val (.int p1), .val (.long q2), .second, .val (.long q3), .second, .val (.long q4), .second, .val (.long q5), .second, .val (.int (1 : Int32)), .val (.int v28), .val (.int v30), .val (.long v31), .second, .val (.int v32), .val (.long v33), .second, .val (.int v34), .val (.long v35), .second, .val (.long v36), .second, .val (.long (0 : Int64)), .second, .val (.long v37), .second, .val (.long v38), .second, .val (.long v39), .second, .val (.long v41), .second, .val (.int v28), .val (.ref b149), .val (.int v47), .val (.ref b162), .val (.ref b182_0)] [])) _
      refine XS.iload X182.here hx rfl (hb hby at_386) rfl ?_
      refine XS.iconst X182.here hx rfl (hb hby at_388) ?_
      refine XS.icmpYes X182.here hx rfl (pc0 := 389) (pc' := 404) rfl (hb hby at_389) rfl (feq (by decide : ¬ ((1 : Int32) = (2 : Int32)))).2 (by decide) (by decide) ?_
      show Steps p.tables e below (T182.setTop (mkF m 404 #[.val (.long q0), .second, .val (.int p1), .val (.long q2), .second, .val (.long q3), .second, .val (.long q4), .second, .val (.long q5), .second, .val (.int (1 : Int32)), .val (.int v28), .val (.int v30), .val (.long v31), .second, .val (.int v32), .val (.long v33), .second, .val (.int v34), .val (.long v35), .second, .val (.long v36), .second, .val (.long (0 : Int64)), .second, .val (.long v37), .second, .val (.long v38), .second, .val (.long v39), .second, .val (.long v41), .second, .val (.int v28), .val (.ref b149), .val (.int v47), .val (.ref b162), .val (.ref b182_0)] [])) _
      refine XS.iconst X182.here hx rfl (hb hby at_404) ?_
      exact kt
    refine own_go hgo189 ?_
    exact own_retZ X182 hx Bd.returns Bd.notSynchronized (hb hby at_405) (by decide) (by decide) (Or.inr (rfl : (1 : Int32) = 1)) ⟨by rw [(rfl : (1 : Int32) = 1)], N182⟩
  · have hs8_57 : v1 = (2 : Int32) := own_n3 hv1 hs8_2 hs8_27
    have hnz14_190 : ¬ ((27 : Int32) = (0 : Int32)) := by decide
    obtain ⟨v58, hv58⟩ : ∃ z : Int32, z = ((2 : Int32) + (((p1.toUInt32 >>> ((2 : Int32) &&& 31).toUInt32).toInt32) % (27 : Int32))) := ⟨_, rfl⟩
    obtain ⟨v60, hv60⟩ : ∃ z : Int32, z = (if v58 < (25 : Int32) then (63 : Int32) else (((1 : Int32) <<< (((30 : Int32) - v58) &&& 31)) - (1 : Int32))) := ⟨_, rfl⟩
    obtain ⟨T193, lc193, X193, N193, e193, st193⟩ := own_mrg (n0 := n0) (h := h0) (g := (mkF m 22 #[.val (.long q0), .second, .val (.int p1), .val (.long q2), .second, .val (.long q3), .second, .val (.long q4), .second, .val (.long q5), .second, .val (.int (2 : Int32)), .val (.int v58), .unset, .unset, .unset, .unset, .unset, .unset, .unset, .unset, .unset, .unset, .unset, .unset, .unset, .unset, .unset, .unset, .unset, .unset, .unset, .unset, .unset, .unset, .unset, .unset, .unset, .unset] [(.int (25 : Int32)), (.int v58)])) (g' := (mkF m 39 #[.val (.long q0), .second, .val (.int p1), .val (.long q2), .second, .val (.long q3), .second, .val (.long q4), .second, .val (.long q5), .second, .val (.int (2 : Int32)), .val (.int v58), .unset, .unset, .unset, .unset, .unset, .unset, .unset, .unset, .unset, .unset, .unset, .unset, .unset, .unset, .unset, .unset, .unset, .unset, .unset, .unset, .unset, .unset, .unset, .unset, .unset, .unset] [(.int v60)])) X0 (by
      by_cases hc22_59 : v58 < (25 : Int32)
      · have hgo191 : ∀ t, Steps p.tables e below (s₁.setTop (mkF m 39 #[.val (.long q0), .second, .val (.int p1), .val (.long q2), .second, .val (.long q3), .second, .val (.long q4), .second, .val (.long q5), .second, .val (.int (2 : Int32)), .val (.int v58), .unset, .unset, .unset, .unset, .unset, .unset, .unset, .unset, .unset, .unset, .unset, .unset, .unset, .unset, .unset, .unset, .unset, .unset, .unset, .unset, .unset, .unset, .unset, .unset, .unset, .unset] [(.int (63 : Int32))])) t → Steps p.tables e below (s₁.setTop (mkF m 22 #[.val (.long q0), .second, .val (.int p1), .val (.long q2), .second, .val (.long q3), .second, .val (.long q4), .second, .val (.long q5), .second, .val (.int (2 : Int32)), .val (.int v58), .unset, .unset, .unset, .unset, .unset, .unset, .unset, .unset, .unset, .unset, .unset, .unset, .unset, .unset, .unset, .unset, .unset, .unset, .unset, .unset, .unset, .unset, .unset, .unset, .unset, .unset] [(.int (25 : Int32)), (.int v58)])) t := by
          intro t kt
          show Steps p.tables e below (s₁.setTop (mkF m 22 #[.val (.long q0), .second, .val (.int p1), .val (.long q2), .second, .val (.long q3), .second, .val (.long q4), .second, .val (.long q5), .second, .val (.int (2 : Int32)), .val (.int v58), .unset, .unset, .unset, .unset, .unset, .unset, .unset, .unset, .unset, .unset, .unset, .unset, .unset, .unset, .unset, .unset, .unset, .unset, .unset, .unset, .unset, .unset, .unset, .unset, .unset, .unset] [(.int (25 : Int32)), (.int v58)])) _
          refine XS.icmpYes X0.here hx rfl (pc0 := 22) (pc' := 37) rfl (hb hby at_22) rfl (tlt hc22_59).1 (by decide) (by decide) ?_
          show Steps p.tables e below (s₁.setTop (mkF m 37 #[.val (.long q0), .second, .val (.int p1), .val (.long q2), .second, .val (.long q3), .second, .val (.long q4), .second, .val (.long q5), .second, .val (.int (2 : Int32)), .val (.int v58), .unset, .unset, .unset, .unset, .unset, .unset, .unset, .unset, .unset, .unset, .unset, .unset, .unset, .unset, .unset, .unset, .unset, .unset, .unset, .unset, .unset, .unset, .unset, .unset, .unset, .unset] [])) _
          refine XS.bipush X0.here hx rfl (hb hby at_37) ?_
          exact kt
        refine own_arm hgo191 ?_
        exact own_armEnd X0 N0 e0 (by rw [hv60.trans (if_pos hc22_59)])
      · have hgo192 : ∀ t, Steps p.tables e below (s₁.setTop (mkF m 39 #[.val (.long q0), .second, .val (.int p1), .val (.long q2), .second, .val (.long q3), .second, .val (.long q4), .second, .val (.long q5), .second, .val (.int (2 : Int32)), .val (.int v58), .unset, .unset, .unset, .unset, .unset, .unset, .unset, .unset, .unset, .unset, .unset, .unset, .unset, .unset, .unset, .unset, .unset, .unset, .unset, .unset, .unset, .unset, .unset, .unset, .unset, .unset] [(.int (((1 : Int32) <<< (((30 : Int32) - v58) &&& 31)) - (1 : Int32)))])) t → Steps p.tables e below (s₁.setTop (mkF m 22 #[.val (.long q0), .second, .val (.int p1), .val (.long q2), .second, .val (.long q3), .second, .val (.long q4), .second, .val (.long q5), .second, .val (.int (2 : Int32)), .val (.int v58), .unset, .unset, .unset, .unset, .unset, .unset, .unset, .unset, .unset, .unset, .unset, .unset, .unset, .unset, .unset, .unset, .unset, .unset, .unset, .unset, .unset, .unset, .unset, .unset, .unset, .unset] [(.int (25 : Int32)), (.int v58)])) t := by
          intro t kt
          show Steps p.tables e below (s₁.setTop (mkF m 22 #[.val (.long q0), .second, .val (.int p1), .val (.long q2), .second, .val (.long q3), .second, .val (.long q4), .second, .val (.long q5), .second, .val (.int (2 : Int32)), .val (.int v58), .unset, .unset, .unset, .unset, .unset, .unset, .unset, .unset, .unset, .unset, .unset, .unset, .unset, .unset, .unset, .unset, .unset, .unset, .unset, .unset, .unset, .unset, .unset, .unset, .unset, .unset] [(.int (25 : Int32)), (.int v58)])) _
          refine XS.icmpNo X0.here hx rfl (hb hby at_22) rfl (flt hc22_59).1 ?_
          show Steps p.tables e below (s₁.setTop (mkF m 25 #[.val (.long q0), .second, .val (.int p1), .val (.long q2), .second, .val (.long q3), .second, .val (.long q4), .second, .val (.long q5), .second, .val (.int (2 : Int32)), .val (.int v58), .unset, .unset, .unset, .unset, .unset, .unset, .unset, .unset, .unset, .unset, .unset, .unset, .unset, .unset, .unset, .unset, .unset, .unset, .unset, .unset, .unset, .unset, .unset, .unset, .unset, .unset] [])) _
          refine XS.iconst X0.here hx rfl (hb hby at_25) ?_
          refine XS.bipush X0.here hx rfl (hb hby at_26) ?_
          refine XS.iload X0.here hx rfl (hb hby at_28) rfl ?_
          show Steps p.tables e below (s₁.setTop (mkF m 30 #[.val (.long q0), .second, .val (.int p1), .val (.long q2), .second, .val (.long q3), .second, .val (.long q4), .second, .val (.long q5), .second, .val (.int (2 : Int32)), .val (.int v58), .unset, .unset, .unset, .unset, .unset, .unset, .unset, .unset, .unset, .unset, .unset, .unset, .unset, .unset, .unset, .unset, .unset, .unset, .unset, .unset, .unset, .unset, .unset, .unset, .unset, .unset] [(.int v58), (.int (30 : Int32)), (.int (1 : Int32))])) _
          refine XS.isub X0.here hx rfl (hb hby at_30) rfl ?_
          show Steps p.tables e below (s₁.setTop (mkF m 31 #[.val (.long q0), .second, .val (.int p1), .val (.long q2), .second, .val (.long q3), .second, .val (.long q4), .second, .val (.long q5), .second, .val (.int (2 : Int32)), .val (.int v58), .unset, .unset, .unset, .unset, .unset, .unset, .unset, .unset, .unset, .unset, .unset, .unset, .unset, .unset, .unset, .unset, .unset, .unset, .unset, .unset, .unset, .unset, .unset, .unset, .unset, .unset] [(.int ((30 : Int32) - v58)), (.int (1 : Int32))])) _
          refine XS.ishl X0.here hx rfl (hb hby at_31) rfl ?_
          show Steps p.tables e below (s₁.setTop (mkF m 32 #[.val (.long q0), .second, .val (.int p1), .val (.long q2), .second, .val (.long q3), .second, .val (.long q4), .second, .val (.long q5), .second, .val (.int (2 : Int32)), .val (.int v58), .unset, .unset, .unset, .unset, .unset, .unset, .unset, .unset, .unset, .unset, .unset, .unset, .unset, .unset, .unset, .unset, .unset, .unset, .unset, .unset, .unset, .unset, .unset, .unset, .unset, .unset] [(.int ((1 : Int32) <<< (((30 : Int32) - v58) &&& 31)))])) _
          refine XS.iconst X0.here hx rfl (hb hby at_32) ?_
          refine XS.isub X0.here hx rfl (hb hby at_33) rfl ?_
          show Steps p.tables e below (s₁.setTop (mkF m 34 #[.val (.long q0), .second, .val (.int p1), .val (.long q2), .second, .val (.long q3), .second, .val (.long q4), .second, .val (.long q5), .second, .val (.int (2 : Int32)), .val (.int v58), .unset, .unset, .unset, .unset, .unset, .unset, .unset, .unset, .unset, .unset, .unset, .unset, .unset, .unset, .unset, .unset, .unset, .unset, .unset, .unset, .unset, .unset, .unset, .unset, .unset, .unset] [(.int (((1 : Int32) <<< (((30 : Int32) - v58) &&& 31)) - (1 : Int32)))])) _
          refine XS.goto X0.here hx rfl (pc0 := 34) (pc' := 39) rfl (hb hby at_34) (by decide) (by decide) ?_
          exact kt
        refine own_arm hgo192 ?_
        exact own_armEnd X0 N0 e0 (by rw [hv60.trans (if_neg hc22_59)]))
    obtain ⟨v61, hv61⟩ : ∃ z : Int64, z = (((1 : Int64) <<< (v58 &&& 0x3f).toInt64) - (1 : Int64)) := ⟨_, rfl⟩
    obtain ⟨v62, hv62⟩ : ∃ z : Int32, z = ((q2 &&& (v60.toInt64)).toInt32) := ⟨_, rfl⟩
    obtain ⟨v63, hv63⟩ : ∃ z : Int64, z = (((q2.toUInt64 >>> ((6 : Int32) &&& 0x3f).toInt64.toUInt64).toInt64) &&& v61) := ⟨_, rfl⟩
    obtain ⟨v64, hv64⟩ : ∃ z : Int32, z = ((q3 &&& (v60.toInt64)).toInt32) := ⟨_, rfl⟩
    obtain ⟨v65, hv65⟩ : ∃ z : Int64, z = (((q3.toUInt64 >>> ((6 : Int32) &&& 0x3f).toInt64.toUInt64).toInt64) &&& v61) := ⟨_, rfl⟩
    obtain ⟨v66, hv66⟩ : ∃ z : Int64, z = (((v62.toInt64) <<< (v58 &&& 0x3f).toInt64) ||| v63) := ⟨_, rfl⟩
    obtain ⟨v67, hv67⟩ : ∃ z : Int64, z = (((v64.toInt64) <<< (v58 &&& 0x3f).toInt64) ||| v65) := ⟨_, rfl⟩
    have ok1 : own_ok v58 v62 v63 (v58.toInt.toNat) (v62.toInt.toNat) := own_par hv58 hv60 hv61 hv62 hv63
    have D1 := own_dlt ok1 hv66
    have ok2 : own_ok v58 v64 v65 (v58.toInt.toNat) (v64.toInt.toNat) := own_par hv58 hv60 hv61 hv64 hv65
    have D2 := own_dlt ok2 hv67
    have hnz141_194 : ¬ ((((4294967296 : Int64) - v66) - v67) = (0 : Int64)) := own_nz141 D1 D2
    obtain ⟨v68, hv68⟩ : ∃ z : Int64, z = ((q0 &&& (4294967295 : Int64)) % (((4294967296 : Int64) - v66) - v67)) := ⟨_, rfl⟩
    obtain ⟨v69, hv69⟩ : ∃ z : Int64, z = (v68 + v66) := ⟨_, rfl⟩
    obtain ⟨v70, hv70⟩ : ∃ z : Int64, z = (v69 + v67) := ⟨_, rfl⟩
    obtain ⟨v71, hv71⟩ : ∃ z : Int64, z = (q4 &&& (4294967295 : Int64)) := ⟨_, rfl⟩
    obtain ⟨_, _, ⟨T195, L195, k195, n195⟩, -, X195, ⟨Lc195, hQ195, l195, y195, z195⟩, st195⟩ := Jvm.LawKit.callS X193 hx (y := (⟨"java/lang/Math", "max", "(JJ)J"⟩ : MethodName)) hown (mvT hZ (hw _ (List.mem_of_getElem? (i := 3) rfl))) (mvT hZ (hw _ (List.mem_of_getElem? (i := 4) rfl))) (mvT hZ (hw _ (List.mem_of_getElem? (i := 5) rfl))) (mvT hZ (hw _ (List.mem_of_getElem? (i := 6) rfl))) (by decide) (backOf (W := 0) (rmmx l Z a0 hw [] v70 v71 h0 n0 Z0 ) hZ (hw _ (List.mem_of_getElem? (i := 6) rfl)) (hw _ (List.mem_of_getElem? (i := 5) rfl)) (by decide) (by decide)) (g := (mkF m 166 #[.val (.long q0), .second, .val (.int p1), .val (.long q2), .second, .val (.long q3), .second, .val (.long q4), .second, .val (.long q5), .second, .val (.int (2 : Int32)), .val (.int v58), .val (.int v60), .val (.long v61), .second, .val (.int v62), .val (.long v63), .second, .val (.int v64), .val (.long v65), .second, .val (.long v66), .second, .val (.long v67), .second, .val (.long v68), .second, .val (.long v69), .second, .val (.long v70), .second, .unset, .unset, .unset, .unset, .unset, .unset, .unset] [(.long v71), (.long v70)])) rfl (by rw [hml]; rfl) (argsL := [(.long v70), (.long v71)]) (rest := []) (lenOf pd10 rfl) rfl (by show 2 * 0 + _ ≤ _; exact Nat.le_of_eq rfl) (hb hby at_166) (fun _ _ => ⟨rfl, e193, (by decide : 0 + 0 ≤ _), (by decide : 0 + 0 ≤ _)⟩)
    dsimp only [Pt.U, Pt.locs, Pt.cells, Pt.slots] at X195 l195 y195 z195 st195 hQ195
    subst l195 y195 z195
    obtain ⟨rfl, N195q, e195⟩ := hQ195
    have N195 := Fr.app N193 N195q
    obtain ⟨v72, hv72⟩ : ∃ z : Int64, z = (own_rmx v70 v71) := ⟨_, rfl⟩
    obtain ⟨fs0, fs1, fs2, fs3⟩ := own_first D1 D2 hv68 hv69 hv70 hv72
    obtain ⟨T196, h196, k196, X196, e196, E196, A196, st196⟩ := newP X195 hx hZ (hw _ (List.mem_of_getElem? (i := 7) rfl)) e195 (g := (mkF m 187 #[.val (.long q0), .second, .val (.int p1), .val (.long q2), .second, .val (.long q3), .second, .val (.long q4), .second, .val (.long q5), .second, .val (.int (2 : Int32)), .val (.int v58), .val (.int v60), .val (.long v61), .second, .val (.int v62), .val (.long v63), .second, .val (.int v64), .val (.long v65), .second, .val (.long v66), .second, .val (.long v67), .second, .val (.long v68), .second, .val (.long v69), .second, .val (.long v70), .second, .val (.long v72), .second, .val (.int v58), .unset, .unset, .unset, .unset] [(.int (3 : Int32))])) rfl (hb hby at_187) rfl (by decide) (cap := 3) (by decide) (by decide) (by decide) (by decide)
    obtain ⟨b196, g196⟩ : ∃ z, z = h0.size := ⟨_, rfl⟩
    rw [← g196] at A196 st196
    have g_b196 : n0 ≤ b196 := Nat.le_trans Z0 (Nat.le_of_eq g196.symm)
    have sz_b196 : h0.size ≤ b196 := Nat.le_trans K0.1 (Nat.le_of_eq g196.symm)
    have Z197 : n0 ≤ h196.size := Nat.le_trans Z0 E196.1
    have K198 : Keep h0 h196 [] := K0.ext E196
    obtain ⟨v73, hv73⟩ : ∃ z : Nat → Int64, z = (fun _ => (0 : Int64)) := ⟨_, rfl⟩
    have F199 : own_AJ Z h196 b196 .long 3 v73 := by rw [hv73]; exact own_AJ.new A196 rfl (by decide)
    obtain ⟨v74, hv74⟩ : ∃ z : Int64, z = (((1 : Int64) <<< (v62 &&& 0x3f).toInt64) - (1 : Int64)) := ⟨_, rfl⟩
    obtain ⟨_, _, ⟨T200, L200, k200, n200⟩, -, X200, ⟨Lc200, hQ200, l200, y200, z200⟩, st200⟩ := Jvm.LawKit.callS X196 hx (y := (⟨"com/example/canonic/canonic/RiceCodeDecodePinLaw", "put", "([JJI)V"⟩ : MethodName)) hown (mvT hZ (hw _ (List.mem_of_getElem? (i := 8) rfl))) (mvT hZ (hw _ (List.mem_of_getElem? (i := 9) rfl))) (mvT hZ (hw _ (List.mem_of_getElem? (i := 10) rfl))) (mvT hZ (hw _ (List.mem_of_getElem? (i := 11) rfl))) (by decide) (backOf (W := 0) (rmpt l Z a0 hw [] b196 v74 (0 : Int32) v73 h196 n0 Z197 F199 (by first | assumption | decide : ¬ ((0 : Int32) < (0 : Int32))) (by first | assumption | decide : (0 : Int32) < (192 : Int32)) g_b196) hZ (hw _ (List.mem_of_getElem? (i := 11) rfl)) (hw _ (List.mem_of_getElem? (i := 10) rfl)) (by decide) (by decide)) (g := (mkF m 210 #[.val (.long q0), .second, .val (.int p1), .val (.long q2), .second, .val (.long q3), .second, .val (.long q4), .second, .val (.long q5), .second, .val (.int (2 : Int32)), .val (.int v58), .val (.int v60), .val (.long v61), .second, .val (.int v62), .val (.long v63), .second, .val (.int v64), .val (.long v65), .second, .val (.long v66), .second, .val (.long v67), .second, .val (.long v68), .second, .val (.long v69), .second, .val (.long v70), .second, .val (.long v72), .second, .val (.int v58), .val (.ref b196), .val (.int (0 : Int32)), .unset, .unset] [(.int (0 : Int32)), (.long v74), (.ref b196)])) rfl (by rw [hml]; rfl) (argsL := [(.ref b196), (.long v74), (.int (0 : Int32))]) (rest := []) (lenOf pd11 rfl) rfl (by show 2 * 0 + _ ≤ _; exact Nat.le_of_eq rfl) (hb hby at_210) (fun _ _ => ⟨rfl, e196, (by decide : 1 + 0 ≤ _), (by decide : 3 + 0 ≤ _)⟩)
    dsimp only [Pt.U, Pt.locs, Pt.cells, Pt.slots] at X200 l200 y200 z200 st200 hQ200
    subst l200 y200 z200
    obtain ⟨rfl, N200q, K200q, F200_0⟩ := hQ200
    have Z201 : n0 ≤ T200.heap.size := Nat.le_trans Z197 K200q.1
    have K202 : Keep h0 T200.heap [] := K198.trans K200q (allS (Or.inr sz_b196) all0)
    obtain ⟨v75, hv75⟩ : ∃ z : Nat → Int64, z = (own_rput v73 v74 (0 : Int32)) := ⟨_, rfl⟩
    have F200_0n : own_AJ Z T200.heap b196 .long 3 v75 := by rw [hv75]; exact F200_0
    have N200 := Fr.app N195 N200q
    obtain ⟨v76, hv76⟩ : ∃ z : Int32, z = (((0 : Int32) + v62) + (1 : Int32)) := ⟨_, rfl⟩
    have ps1 := own_pos1 ok1 (show (0 : Int32).toInt = ((0 : Nat) : Int) from rfl) (by omega) hv76
    obtain ⟨_, _, ⟨T203, L203, k203, n203⟩, -, X203, ⟨Lc203, hQ203, l203, y203, z203⟩, st203⟩ := Jvm.LawKit.callS X200 hx (y := (⟨"com/example/canonic/canonic/RiceCodeDecodePinLaw", "put", "([JJI)V"⟩ : MethodName)) hown (mvT hZ (hw _ (List.mem_of_getElem? (i := 8) rfl))) (mvT hZ (hw _ (List.mem_of_getElem? (i := 9) rfl))) (mvT hZ (hw _ (List.mem_of_getElem? (i := 10) rfl))) (mvT hZ (hw _ (List.mem_of_getElem? (i := 11) rfl))) (by decide) (backOf (W := 0) (rmpt l Z a0 hw [] b196 v63 v76 v75 (T200.heap) n0 Z201 F200_0n ((own_in192 ps1 (by have y0 := own_okb ok1; omega)).1 : ¬ (v76 < (0 : Int32))) ((own_in192 ps1 (by have y0 := own_okb ok1; omega)).2 : v76 < (192 : Int32)) g_b196) hZ (hw _ (List.mem_of_getElem? (i := 11) rfl)) (hw _ (List.mem_of_getElem? (i := 10) rfl)) (by decide) (by decide)) (g := (mkF m 228 #[.val (.long q0), .second, .val (.int p1), .val (.long q2), .second, .val (.long q3), .second, .val (.long q4), .second, .val (.long q5), .second, .val (.int (2 : Int32)), .val (.int v58), .val (.int v60), .val (.long v61), .second, .val (.int v62), .val (.long v63), .second, .val (.int v64), .val (.long v65), .second, .val (.long v66), .second, .val (.long v67), .second, .val (.long v68), .second, .val (.long v69), .second, .val (.long v70), .second, .val (.long v72), .second, .val (.int v58), .val (.ref b196), .val (.int v76), .unset, .unset] [(.int v76), (.long v63), (.ref b196)])) rfl (by rw [hml]; rfl) (argsL := [(.ref b196), (.long v63), (.int v76)]) (rest := []) (lenOf pd11 rfl) rfl (by show 2 * 0 + _ ≤ _; exact Nat.le_of_eq rfl) (hb hby at_228) (fun _ _ => ⟨rfl, (rfl : T200.heap = T200.heap), (by decide : 1 + 0 ≤ _), (by decide : 3 + 0 ≤ _)⟩)
    dsimp only [Pt.U, Pt.locs, Pt.cells, Pt.slots] at X203 l203 y203 z203 st203 hQ203
    subst l203 y203 z203
    obtain ⟨rfl, N203q, K203q, F203_0⟩ := hQ203
    have Z204 : n0 ≤ T203.heap.size := Nat.le_trans Z201 K203q.1
    have K205 : Keep h0 T203.heap [] := K202.trans K203q (allS (Or.inr sz_b196) all0)
    obtain ⟨v77, hv77⟩ : ∃ z : Nat → Int64, z = (own_rput v75 v63 v76) := ⟨_, rfl⟩
    have F203_0n : own_AJ Z T203.heap b196 .long 3 v77 := by rw [hv77]; exact F203_0
    have N203 := Fr.app N200 N203q
    obtain ⟨v78, hv78⟩ : ∃ z : Int32, z = (v76 + v58) := ⟨_, rfl⟩
    have ps2 := own_pos2 ok1 ps1 (by omega) hv78
    obtain ⟨v79, hv79⟩ : ∃ z : Int64, z = (((1 : Int64) <<< (v64 &&& 0x3f).toInt64) - (1 : Int64)) := ⟨_, rfl⟩
    obtain ⟨_, _, ⟨T206, L206, k206, n206⟩, -, X206, ⟨Lc206, hQ206, l206, y206, z206⟩, st206⟩ := Jvm.LawKit.callS X203 hx (y := (⟨"com/example/canonic/canonic/RiceCodeDecodePinLaw", "put", "([JJI)V"⟩ : MethodName)) hown (mvT hZ (hw _ (List.mem_of_getElem? (i := 8) rfl))) (mvT hZ (hw _ (List.mem_of_getElem? (i := 9) rfl))) (mvT hZ (hw _ (List.mem_of_getElem? (i := 10) rfl))) (mvT hZ (hw _ (List.mem_of_getElem? (i := 11) rfl))) (by decide) (backOf (W := 0) (rmpt l Z a0 hw [] b196 v79 v78 v77 (T203.heap) n0 Z204 F203_0n ((own_in192 ps2 (by have y0 := own_okb ok1; omega)).1 : ¬ (v78 < (0 : Int32))) ((own_in192 ps2 (by have y0 := own_okb ok1; omega)).2 : v78 < (192 : Int32)) g_b196) hZ (hw _ (List.mem_of_getElem? (i := 11) rfl)) (hw _ (List.mem_of_getElem? (i := 10) rfl)) (by decide) (by decide)) (g := (mkF m 254 #[.val (.long q0), .second, .val (.int p1), .val (.long q2), .second, .val (.long q3), .second, .val (.long q4), .second, .val (.long q5), .second, .val (.int (2 : Int32)), .val (.int v58), .val (.int v60), .val (.long v61), .second, .val (.int v62), .val (.long v63), .second, .val (.int v64), .val (.long v65), .second, .val (.long v66), .second, .val (.long v67), .second, .val (.long v68), .second, .val (.long v69), .second, .val (.long v70), .second, .val (.long v72), .second, .val (.int v58), .val (.ref b196), .val (.int v78), .unset, .unset] [(.int v78), (.long v79), (.ref b196)])) rfl (by rw [hml]; rfl) (argsL := [(.ref b196), (.long v79), (.int v78)]) (rest := []) (lenOf pd11 rfl) rfl (by show 2 * 0 + _ ≤ _; exact Nat.le_of_eq rfl) (hb hby at_254) (fun _ _ => ⟨rfl, (rfl : T203.heap = T203.heap), (by decide : 1 + 0 ≤ _), (by decide : 3 + 0 ≤ _)⟩)
    dsimp only [Pt.U, Pt.locs, Pt.cells, Pt.slots] at X206 l206 y206 z206 st206 hQ206
    subst l206 y206 z206
    obtain ⟨rfl, N206q, K206q, F206_0⟩ := hQ206
    have Z207 : n0 ≤ T206.heap.size := Nat.le_trans Z204 K206q.1
    have K208 : Keep h0 T206.heap [] := K205.trans K206q (allS (Or.inr sz_b196) all0)
    obtain ⟨v80, hv80⟩ : ∃ z : Nat → Int64, z = (own_rput v77 v79 v78) := ⟨_, rfl⟩
    have F206_0n : own_AJ Z T206.heap b196 .long 3 v80 := by rw [hv80]; exact F206_0
    have N206 := Fr.app N203 N206q
    obtain ⟨v81, hv81⟩ : ∃ z : Int32, z = ((v78 + v64) + (1 : Int32)) := ⟨_, rfl⟩
    have ps3 := own_pos1 ok2 ps2 (own_okb ok1) hv81
    obtain ⟨_, _, ⟨T209, L209, k209, n209⟩, -, X209, ⟨Lc209, hQ209, l209, y209, z209⟩, st209⟩ := Jvm.LawKit.callS X206 hx (y := (⟨"com/example/canonic/canonic/RiceCodeDecodePinLaw", "put", "([JJI)V"⟩ : MethodName)) hown (mvT hZ (hw _ (List.mem_of_getElem? (i := 8) rfl))) (mvT hZ (hw _ (List.mem_of_getElem? (i := 9) rfl))) (mvT hZ (hw _ (List.mem_of_getElem? (i := 10) rfl))) (mvT hZ (hw _ (List.mem_of_getElem? (i := 11) rfl))) (by decide) (backOf (W := 0) (rmpt l Z a0 hw [] b196 v65 v81 v80 (T206.heap) n0 Z207 F206_0n ((own_in192 ps3 (by have y0 := own_okb2 ok2 (own_okb ok1); omega)).1 : ¬ (v81 < (0 : Int32))) ((own_in192 ps3 (by have y0 := own_okb2 ok2 (own_okb ok1); omega)).2 : v81 < (192 : Int32)) g_b196) hZ (hw _ (List.mem_of_getElem? (i := 11) rfl)) (hw _ (List.mem_of_getElem? (i := 10) rfl)) (by decide) (by decide)) (g := (mkF m 272 #[.val (.long q0), .second, .val (.int p1), .val (.long q2), .second, .val (.long q3), .second, .val (.long q4), .second, .val (.long q5), .second, .val (.int (2 : Int32)), .val (.int v58), .val (.int v60), .val (.long v61), .second, .val (.int v62), .val (.long v63), .second, .val (.int v64), .val (.long v65), .second, .val (.long v66), .second, .val (.long v67), .second, .val (.long v68), .second, .val (.long v69), .second, .val (.long v70), .second, .val (.long v72), .second, .val (.int v58), .val (.ref b196), .val (.int v81), .unset, .unset] [(.int v81), (.long v65), (.ref b196)])) rfl (by rw [hml]; rfl) (argsL := [(.ref b196), (.long v65), (.int v81)]) (rest := []) (lenOf pd11 rfl) rfl (by show 2 * 0 + _ ≤ _; exact Nat.le_of_eq rfl) (hb hby at_272) (fun _ _ => ⟨rfl, (rfl : T206.heap = T206.heap), (by decide : 1 + 0 ≤ _), (by decide : 3 + 0 ≤ _)⟩)
    dsimp only [Pt.U, Pt.locs, Pt.cells, Pt.slots] at X209 l209 y209 z209 st209 hQ209
    subst l209 y209 z209
    obtain ⟨rfl, N209q, K209q, F209_0⟩ := hQ209
    have Z210 : n0 ≤ T209.heap.size := Nat.le_trans Z207 K209q.1
    have K211 : Keep h0 T209.heap [] := K208.trans K209q (allS (Or.inr sz_b196) all0)
    obtain ⟨v82, hv82⟩ : ∃ z : Nat → Int64, z = (own_rput v80 v65 v81) := ⟨_, rfl⟩
    have F209_0n : own_AJ Z T209.heap b196 .long 3 v82 := by rw [hv82]; exact F209_0
    have N209 := Fr.app N206 N209q
    obtain ⟨v83, hv83⟩ : ∃ z : Int32, z = (v81 + v58) := ⟨_, rfl⟩
    have ps4 := own_pos2 ok2 ps3 (own_okb ok1) hv83
    obtain ⟨_, _, ⟨T212, L212, k212, n212⟩, -, X212, ⟨Lc212, hQ212, l212, y212, z212⟩, st212⟩ := Jvm.LawKit.callS X209 hx (y := (⟨"com/example/canonic/canonic/RiceCodeDecodePinLaw", "put", "([JJI)V"⟩ : MethodName)) hown (mvT hZ (hw _ (List.mem_of_getElem? (i := 8) rfl))) (mvT hZ (hw _ (List.mem_of_getElem? (i := 9) rfl))) (mvT hZ (hw _ (List.mem_of_getElem? (i := 10) rfl))) (mvT hZ (hw _ (List.mem_of_getElem? (i := 11) rfl))) (by decide) (backOf (W := 0) (rmpt l Z a0 hw [] b196 q5 v83 v82 (T209.heap) n0 Z210 F209_0n ((own_in192 ps4 (own_okb2 ok2 (own_okb ok1))).1 : ¬ (v83 < (0 : Int32))) ((own_in192 ps4 (own_okb2 ok2 (own_okb ok1))).2 : v83 < (192 : Int32)) g_b196) hZ (hw _ (List.mem_of_getElem? (i := 11) rfl)) (hw _ (List.mem_of_getElem? (i := 10) rfl)) (by decide) (by decide)) (g := (mkF m 288 #[.val (.long q0), .second, .val (.int p1), .val (.long q2), .second, .val (.long q3), .second, .val (.long q4), .second, .val (.long q5), .second, .val (.int (2 : Int32)), .val (.int v58), .val (.int v60), .val (.long v61), .second, .val (.int v62), .val (.long v63), .second, .val (.int v64), .val (.long v65), .second, .val (.long v66), .second, .val (.long v67), .second, .val (.long v68), .second, .val (.long v69), .second, .val (.long v70), .second, .val (.long v72), .second, .val (.int v58), .val (.ref b196), .val (.int v83), .unset, .unset] [(.int v83), (.long q5), (.ref b196)])) rfl (by rw [hml]; rfl) (argsL := [(.ref b196), (.long q5), (.int v83)]) (rest := []) (lenOf pd11 rfl) rfl (by show 2 * 0 + _ ≤ _; exact Nat.le_of_eq rfl) (hb hby at_288) (fun _ _ => ⟨rfl, (rfl : T209.heap = T209.heap), (by decide : 1 + 0 ≤ _), (by decide : 3 + 0 ≤ _)⟩)
    dsimp only [Pt.U, Pt.locs, Pt.cells, Pt.slots] at X212 l212 y212 z212 st212 hQ212
    subst l212 y212 z212
    obtain ⟨rfl, N212q, K212q, F212_0⟩ := hQ212
    have Z213 : n0 ≤ T212.heap.size := Nat.le_trans Z210 K212q.1
    have K214 : Keep h0 T212.heap [] := K211.trans K212q (allS (Or.inr sz_b196) all0)
    obtain ⟨v84, hv84⟩ : ∃ z : Nat → Int64, z = (own_rput v82 q5 v83) := ⟨_, rfl⟩
    have F212_0n : own_AJ Z T212.heap b196 .long 3 v84 := by rw [hv84]; exact F212_0
    have N212 := Fr.app N209 N212q
    obtain ⟨T215, h215, k215, X215, e215, E215, A215, st215⟩ := newP X212 hx hZ (hw _ (List.mem_of_getElem? (i := 12) rfl)) (rfl : T212.heap = T212.heap) (g := (mkF m 293 #[.val (.long q0), .second, .val (.int p1), .val (.long q2), .second, .val (.long q3), .second, .val (.long q4), .second, .val (.long q5), .second, .val (.int (2 : Int32)), .val (.int v58), .val (.int v60), .val (.long v61), .second, .val (.int v62), .val (.long v63), .second, .val (.int v64), .val (.long v65), .second, .val (.long v66), .second, .val (.long v67), .second, .val (.long v68), .second, .val (.long v69), .second, .val (.long v70), .second, .val (.long v72), .second, .val (.int v58), .val (.ref b196), .val (.int v83), .unset, .unset] [(.int (24 : Int32))])) rfl (hb hby at_293) rfl (by decide) (cap := 24) (by decide) (by decide) (by decide) (by decide)
    obtain ⟨b215, g215⟩ : ∃ z, z = T212.heap.size := ⟨_, rfl⟩
    rw [← g215] at A215 st215
    have ne_b196_b215 : b196 ≠ b215 := Nat.ne_of_lt (Nat.lt_of_lt_of_le F212_0n.lt (Nat.le_of_eq g215.symm))
    have g_b215 : n0 ≤ b215 := Nat.le_trans Z213 (Nat.le_of_eq g215.symm)
    have sz_b215 : h0.size ≤ b215 := Nat.le_trans K214.1 (Nat.le_of_eq g215.symm)
    have F216 := F212_0n.ext E215
    have Z217 : n0 ≤ h215.size := Nat.le_trans Z213 E215.1
    have K218 : Keep h0 h215 [] := K214.ext E215
    obtain ⟨v85, hv85⟩ : ∃ z : Nat → Int32, z = (fun _ => (0 : Int32)) := ⟨_, rfl⟩
    have F219 : own_AI Z h215 b215 .byte 24 v85 := by rw [hv85]; exact own_AI.new A215 rfl (by decide)
    have hin303_220 : ¬ (0 : Int32) < 0 ∧ (0 : Int32).toNatClampNeg < 3 := by decide
    obtain ⟨v86, hv86⟩ : ∃ z : Int64, z = (v84 0) := ⟨_, rfl⟩
    obtain ⟨_, _, ⟨T221, L221, k221, n221⟩, -, X221, ⟨Lc221, hQ221, l221, y221, z221⟩, st221⟩ := Jvm.LawKit.callS X215 hx (y := (⟨"com/example/canonic/canonic/RiceCodeDecodePinLaw", "put8", "([BIJ)V"⟩ : MethodName)) hown (mvT hZ (hw _ (List.mem_of_getElem? (i := 13) rfl))) (mvT hZ (hw _ (List.mem_of_getElem? (i := 14) rfl))) (mvT hZ (hw _ (List.mem_of_getElem? (i := 10) rfl))) (mvT hZ (hw _ (List.mem_of_getElem? (i := 15) rfl))) (by decide) (backOf (W := 0) (rmp8_0 l Z a0 hw [] b215 (0 : Int32) v86 v85 h215 n0 Z217 F219 (by first | assumption | decide : (0 : Int32) = (0 : Int32)) g_b215) hZ (hw _ (List.mem_of_getElem? (i := 15) rfl)) (hw _ (List.mem_of_getElem? (i := 10) rfl)) (by decide) (by decide)) (g := (mkF m 304 #[.val (.long q0), .second, .val (.int p1), .val (.long q2), .second, .val (.long q3), .second, .val (.long q4), .second, .val (.long q5), .second, .val (.int (2 : Int32)), .val (.int v58), .val (.int v60), .val (.long v61), .second, .val (.int v62), .val (.long v63), .second, .val (.int v64), .val (.long v65), .second, .val (.long v66), .second, .val (.long v67), .second, .val (.long v68), .second, .val (.long v69), .second, .val (.long v70), .second, .val (.long v72), .second, .val (.int v58), .val (.ref b196), .val (.int v83), .val (.ref b215), .unset] [(.long v86), (.int (0 : Int32)), (.ref b215)])) rfl (by rw [hml]; rfl) (argsL := [(.ref b215), (.int (0 : Int32)), (.long v86)]) (rest := []) (lenOf pd12 rfl) rfl (by show 2 * 0 + _ ≤ _; exact Nat.le_of_eq rfl) (hb hby at_304) (fun _ _ => ⟨rfl, e215, (by decide : 2 + 0 ≤ _), (by decide : 27 + 0 ≤ _)⟩)
    dsimp only [Pt.U, Pt.locs, Pt.cells, Pt.slots] at X221 l221 y221 z221 st221 hQ221
    subst l221 y221 z221
    obtain ⟨rfl, N221q, K221q, F221_0⟩ := hQ221
    have F222 := F216.keep K221q (ninS ne_b196_b215 nin0)
    have Z223 : n0 ≤ T221.heap.size := Nat.le_trans Z217 K221q.1
    have K224 : Keep h0 T221.heap [] := K218.trans K221q (allS (Or.inr sz_b215) all0)
    obtain ⟨v87, hv87⟩ : ∃ z : Nat → Int32, z = (own_up (own_up (own_up (own_up (own_up (own_up (own_up (own_up v85 0 (nar .byte ((v86.toInt32).toInt8.toInt32))) 1 (nar .byte ((((v86.toUInt64 >>> ((8 : Int32) &&& 0x3f).toInt64.toUInt64).toInt64).toInt32).toInt8.toInt32))) 2 (nar .byte ((((v86.toUInt64 >>> ((16 : Int32) &&& 0x3f).toInt64.toUInt64).toInt64).toInt32).toInt8.toInt32))) 3 (nar .byte ((((v86.toUInt64 >>> ((24 : Int32) &&& 0x3f).toInt64.toUInt64).toInt64).toInt32).toInt8.toInt32))) 4 (nar .byte ((((v86.toUInt64 >>> ((32 : Int32) &&& 0x3f).toInt64.toUInt64).toInt64).toInt32).toInt8.toInt32))) 5 (nar .byte ((((v86.toUInt64 >>> ((40 : Int32) &&& 0x3f).toInt64.toUInt64).toInt64).toInt32).toInt8.toInt32))) 6 (nar .byte ((((v86.toUInt64 >>> ((48 : Int32) &&& 0x3f).toInt64.toUInt64).toInt64).toInt32).toInt8.toInt32))) 7 (nar .byte ((((v86.toUInt64 >>> ((56 : Int32) &&& 0x3f).toInt64.toUInt64).toInt64).toInt32).toInt8.toInt32))) := ⟨_, rfl⟩
    have F221_0n : own_AI Z T221.heap b215 .byte 24 v87 := by rw [hv87]; exact F221_0
    have N221 := Fr.app N212 N221q
    have hin314_225 : ¬ (1 : Int32) < 0 ∧ (1 : Int32).toNatClampNeg < 3 := by decide
    obtain ⟨v88, hv88⟩ : ∃ z : Int64, z = (v84 1) := ⟨_, rfl⟩
    obtain ⟨_, _, ⟨T226, L226, k226, n226⟩, -, X226, ⟨Lc226, hQ226, l226, y226, z226⟩, st226⟩ := Jvm.LawKit.callS X221 hx (y := (⟨"com/example/canonic/canonic/RiceCodeDecodePinLaw", "put8", "([BIJ)V"⟩ : MethodName)) hown (mvT hZ (hw _ (List.mem_of_getElem? (i := 13) rfl))) (mvT hZ (hw _ (List.mem_of_getElem? (i := 14) rfl))) (mvT hZ (hw _ (List.mem_of_getElem? (i := 10) rfl))) (mvT hZ (hw _ (List.mem_of_getElem? (i := 15) rfl))) (by decide) (backOf (W := 0) (rmp8_8 l Z a0 hw [] b215 (8 : Int32) v88 v87 (T221.heap) n0 Z223 F221_0n (by first | assumption | decide : (8 : Int32) = (8 : Int32)) g_b215) hZ (hw _ (List.mem_of_getElem? (i := 15) rfl)) (hw _ (List.mem_of_getElem? (i := 10) rfl)) (by decide) (by decide)) (g := (mkF m 315 #[.val (.long q0), .second, .val (.int p1), .val (.long q2), .second, .val (.long q3), .second, .val (.long q4), .second, .val (.long q5), .second, .val (.int (2 : Int32)), .val (.int v58), .val (.int v60), .val (.long v61), .second, .val (.int v62), .val (.long v63), .second, .val (.int v64), .val (.long v65), .second, .val (.long v66), .second, .val (.long v67), .second, .val (.long v68), .second, .val (.long v69), .second, .val (.long v70), .second, .val (.long v72), .second, .val (.int v58), .val (.ref b196), .val (.int v83), .val (.ref b215), .unset] [(.long v88), (.int (8 : Int32)), (.ref b215)])) rfl (by rw [hml]; rfl) (argsL := [(.ref b215), (.int (8 : Int32)), (.long v88)]) (rest := []) (lenOf pd12 rfl) rfl (by show 2 * 0 + _ ≤ _; exact Nat.le_of_eq rfl) (hb hby at_315) (fun _ _ => ⟨rfl, (rfl : T221.heap = T221.heap), (by decide : 2 + 0 ≤ _), (by decide : 27 + 0 ≤ _)⟩)
    dsimp only [Pt.U, Pt.locs, Pt.cells, Pt.slots] at X226 l226 y226 z226 st226 hQ226
    subst l226 y226 z226
    obtain ⟨rfl, N226q, K226q, F226_0⟩ := hQ226
    have F227 := F222.keep K226q (ninS ne_b196_b215 nin0)
    have Z228 : n0 ≤ T226.heap.size := Nat.le_trans Z223 K226q.1
    have K229 : Keep h0 T226.heap [] := K224.trans K226q (allS (Or.inr sz_b215) all0)
    obtain ⟨v89, hv89⟩ : ∃ z : Nat → Int32, z = (own_up (own_up (own_up (own_up (own_up (own_up (own_up (own_up v87 8 (nar .byte ((v88.toInt32).toInt8.toInt32))) 9 (nar .byte ((((v88.toUInt64 >>> ((8 : Int32) &&& 0x3f).toInt64.toUInt64).toInt64).toInt32).toInt8.toInt32))) 10 (nar .byte ((((v88.toUInt64 >>> ((16 : Int32) &&& 0x3f).toInt64.toUInt64).toInt64).toInt32).toInt8.toInt32))) 11 (nar .byte ((((v88.toUInt64 >>> ((24 : Int32) &&& 0x3f).toInt64.toUInt64).toInt64).toInt32).toInt8.toInt32))) 12 (nar .byte ((((v88.toUInt64 >>> ((32 : Int32) &&& 0x3f).toInt64.toUInt64).toInt64).toInt32).toInt8.toInt32))) 13 (nar .byte ((((v88.toUInt64 >>> ((40 : Int32) &&& 0x3f).toInt64.toUInt64).toInt64).toInt32).toInt8.toInt32))) 14 (nar .byte ((((v88.toUInt64 >>> ((48 : Int32) &&& 0x3f).toInt64.toUInt64).toInt64).toInt32).toInt8.toInt32))) 15 (nar .byte ((((v88.toUInt64 >>> ((56 : Int32) &&& 0x3f).toInt64.toUInt64).toInt64).toInt32).toInt8.toInt32))) := ⟨_, rfl⟩
    have F226_0n : own_AI Z T226.heap b215 .byte 24 v89 := by rw [hv89]; exact F226_0
    have N226 := Fr.app N221 N226q
    have hin325_230 : ¬ (2 : Int32) < 0 ∧ (2 : Int32).toNatClampNeg < 3 := by decide
    obtain ⟨v90, hv90⟩ : ∃ z : Int64, z = (v84 2) := ⟨_, rfl⟩
    obtain ⟨_, _, ⟨T231, L231, k231, n231⟩, -, X231, ⟨Lc231, hQ231, l231, y231, z231⟩, st231⟩ := Jvm.LawKit.callS X226 hx (y := (⟨"com/example/canonic/canonic/RiceCodeDecodePinLaw", "put8", "([BIJ)V"⟩ : MethodName)) hown (mvT hZ (hw _ (List.mem_of_getElem? (i := 13) rfl))) (mvT hZ (hw _ (List.mem_of_getElem? (i := 14) rfl))) (mvT hZ (hw _ (List.mem_of_getElem? (i := 10) rfl))) (mvT hZ (hw _ (List.mem_of_getElem? (i := 15) rfl))) (by decide) (backOf (W := 0) (rmp8_16 l Z a0 hw [] b215 (16 : Int32) v90 v89 (T226.heap) n0 Z228 F226_0n (by first | assumption | decide : (16 : Int32) = (16 : Int32)) g_b215) hZ (hw _ (List.mem_of_getElem? (i := 15) rfl)) (hw _ (List.mem_of_getElem? (i := 10) rfl)) (by decide) (by decide)) (g := (mkF m 326 #[.val (.long q0), .second, .val (.int p1), .val (.long q2), .second, .val (.long q3), .second, .val (.long q4), .second, .val (.long q5), .second, .val (.int (2 : Int32)), .val (.int v58), .val (.int v60), .val (.long v61), .second, .val (.int v62), .val (.long v63), .second, .val (.int v64), .val (.long v65), .second, .val (.long v66), .second, .val (.long v67), .second, .val (.long v68), .second, .val (.long v69), .second, .val (.long v70), .second, .val (.long v72), .second, .val (.int v58), .val (.ref b196), .val (.int v83), .val (.ref b215), .unset] [(.long v90), (.int (16 : Int32)), (.ref b215)])) rfl (by rw [hml]; rfl) (argsL := [(.ref b215), (.int (16 : Int32)), (.long v90)]) (rest := []) (lenOf pd12 rfl) rfl (by show 2 * 0 + _ ≤ _; exact Nat.le_of_eq rfl) (hb hby at_326) (fun _ _ => ⟨rfl, (rfl : T226.heap = T226.heap), (by decide : 2 + 0 ≤ _), (by decide : 27 + 0 ≤ _)⟩)
    dsimp only [Pt.U, Pt.locs, Pt.cells, Pt.slots] at X231 l231 y231 z231 st231 hQ231
    subst l231 y231 z231
    obtain ⟨rfl, N231q, K231q, F231_0⟩ := hQ231
    have F232 := F227.keep K231q (ninS ne_b196_b215 nin0)
    have Z233 : n0 ≤ T231.heap.size := Nat.le_trans Z228 K231q.1
    have K234 : Keep h0 T231.heap [] := K229.trans K231q (allS (Or.inr sz_b215) all0)
    obtain ⟨v91, hv91⟩ : ∃ z : Nat → Int32, z = (own_up (own_up (own_up (own_up (own_up (own_up (own_up (own_up v89 16 (nar .byte ((v90.toInt32).toInt8.toInt32))) 17 (nar .byte ((((v90.toUInt64 >>> ((8 : Int32) &&& 0x3f).toInt64.toUInt64).toInt64).toInt32).toInt8.toInt32))) 18 (nar .byte ((((v90.toUInt64 >>> ((16 : Int32) &&& 0x3f).toInt64.toUInt64).toInt64).toInt32).toInt8.toInt32))) 19 (nar .byte ((((v90.toUInt64 >>> ((24 : Int32) &&& 0x3f).toInt64.toUInt64).toInt64).toInt32).toInt8.toInt32))) 20 (nar .byte ((((v90.toUInt64 >>> ((32 : Int32) &&& 0x3f).toInt64.toUInt64).toInt64).toInt32).toInt8.toInt32))) 21 (nar .byte ((((v90.toUInt64 >>> ((40 : Int32) &&& 0x3f).toInt64.toUInt64).toInt64).toInt32).toInt8.toInt32))) 22 (nar .byte ((((v90.toUInt64 >>> ((48 : Int32) &&& 0x3f).toInt64.toUInt64).toInt64).toInt32).toInt8.toInt32))) 23 (nar .byte ((((v90.toUInt64 >>> ((56 : Int32) &&& 0x3f).toInt64.toUInt64).toInt64).toInt32).toInt8.toInt32))) := ⟨_, rfl⟩
    have F231_0n : own_AI Z T231.heap b215 .byte 24 v91 := by rw [hv91]; exact F231_0
    have N231 := Fr.app N226 N231q
    have HB : own_bytes (own_W v84) v91 := own_mkb hv86 hv88 hv90 hv87 hv89 hv91
    obtain ⟨en1, en2⟩ := own_W2 ok1 ok2 hv73 hv74 hv79 ps1 ps2 ps3 ps4 hv75 hv77 hv80 hv82 hv84
    have S1 : (v68 + (((v62.toInt64) <<< (v58 &&& 0x3f).toInt64) ||| ((v63.toInt32).toInt64))) = v69 := by rw [own_r32 ok1, ← hv66, ← hv69]
    have S2 : ((v68 + (((v62.toInt64) <<< (v58 &&& 0x3f).toInt64) ||| ((v63.toInt32).toInt64))) + (((v64.toInt64) <<< (v58 &&& 0x3f).toInt64) ||| ((v65.toInt32).toInt64))) = v70 := by rw [S1, own_r32 ok2, ← hv67, ← hv70]
    obtain ⟨_, _, ⟨T235, L235, k235, n235⟩, -, X235, ⟨Lc235, hQ235, l235, y235, z235⟩, st235⟩ := Jvm.LawKit.callS X231 hx (y := (⟨"com/example/canonic/canonic/RiceCode", "decode", "(JII[BJ)[I"⟩ : MethodName)) hown (mvT hZ (hw _ (List.mem_of_getElem? (i := 16) rfl))) (mvT hZ (hw _ (List.mem_of_getElem? (i := 17) rfl))) (mvT hZ (hw _ (List.mem_of_getElem? (i := 18) rfl))) (mvT hZ (hw _ (List.mem_of_getElem? (i := 19) rfl))) (by decide) (backOf (W := 0) (rmdc2 l Z a0 hw [] v68 v58 (2 : Int32) b215 v72 v91 (own_W v84) (v58.toInt.toNat) (v62.toInt.toNat) (v62.toInt64) (v63.toInt32) (v64.toInt.toNat) (v64.toInt64) (v65.toInt32) (T231.heap) n0 Z233 F231_0n (HB : own_bytes (own_W v84) v91) (fs0 : ¬ (v68 < (0 : Int64))) (fs1 : ¬ (v72 < v68)) (ok1.1 : v58.toInt = ((v58.toInt.toNat) : Int)) (ok1.2.2.1 : 2 ≤ (v58.toInt.toNat)) (ok1.2.2.2.1 : (v58.toInt.toNat) ≤ 28) ((by have y0 := own_okb2 ok2 (own_okb ok1); omega) : ((0 + (v62.toInt.toNat) + 1 + (v58.toInt.toNat)) + (v64.toInt.toNat) + 1 + (v58.toInt.toNat)) ≤ 192) (en1.1 : (own_W v84) / 2 ^ 0 % 2 ^ ((v62.toInt.toNat) + 1) = 2 ^ (v62.toInt.toNat) - 1) ((by rw [en1.2]; exact own_r32i ok1) : (v63.toInt32).toInt = (((own_W v84) / 2 ^ (0 + (v62.toInt.toNat) + 1) % 2 ^ (v58.toInt.toNat) : Nat) : Int)) (own_okL ok1 : (v62.toInt64).toBitVec.toNat = (v62.toInt.toNat)) ((by rw [S1]; exact fs2) : ¬ (v72 < (v68 + (((v62.toInt64) <<< (v58 &&& 0x3f).toInt64) ||| ((v63.toInt32).toInt64))))) (en2.1 : (own_W v84) / 2 ^ (0 + (v62.toInt.toNat) + 1 + (v58.toInt.toNat)) % 2 ^ ((v64.toInt.toNat) + 1) = 2 ^ (v64.toInt.toNat) - 1) ((by rw [en2.2]; exact own_r32i ok2) : (v65.toInt32).toInt = (((own_W v84) / 2 ^ ((0 + (v62.toInt.toNat) + 1 + (v58.toInt.toNat)) + (v64.toInt.toNat) + 1) % 2 ^ (v58.toInt.toNat) : Nat) : Int)) (own_okL ok2 : (v64.toInt64).toBitVec.toNat = (v64.toInt.toNat)) ((by rw [S2]; exact fs3) : ¬ (v72 < ((v68 + (((v62.toInt64) <<< (v58 &&& 0x3f).toInt64) ||| ((v63.toInt32).toInt64))) + (((v64.toInt64) <<< (v58 &&& 0x3f).toInt64) ||| ((v65.toInt32).toInt64))))) (by first | assumption | decide : (2 : Int32) = (2 : Int32))) hZ (hw _ (List.mem_of_getElem? (i := 19) rfl)) (hw _ (List.mem_of_getElem? (i := 18) rfl)) (by decide) (by decide)) (g := (mkF m 339 #[.val (.long q0), .second, .val (.int p1), .val (.long q2), .second, .val (.long q3), .second, .val (.long q4), .second, .val (.long q5), .second, .val (.int (2 : Int32)), .val (.int v58), .val (.int v60), .val (.long v61), .second, .val (.int v62), .val (.long v63), .second, .val (.int v64), .val (.long v65), .second, .val (.long v66), .second, .val (.long v67), .second, .val (.long v68), .second, .val (.long v69), .second, .val (.long v70), .second, .val (.long v72), .second, .val (.int v58), .val (.ref b196), .val (.int v83), .val (.ref b215), .unset] [(.long v72), (.ref b215), (.int (2 : Int32)), (.int v58), (.long v68)])) rfl (by rw [hml]; rfl) (argsL := [(.long v68), (.int v58), (.int (2 : Int32)), (.ref b215), (.long v72)]) (rest := []) (lenOf pd13 rfl) rfl (by show 2 * 0 + _ ≤ _; exact Nat.le_of_eq rfl) (hb hby at_339) (fun _ _ => ⟨rfl, (rfl : T231.heap = T231.heap), (by decide : 2 + 2 ≤ _), (by decide : 27 + 7 ≤ _)⟩)
    dsimp only [Pt.U, Pt.locs, Pt.cells, Pt.slots] at X235 l235 y235 z235 st235 hQ235
    subst l235 y235 z235
    obtain ⟨b235_0, rfl, N235q, K235q, F235_0, F235_1⟩ := hQ235
    have F236 := F232.keep K235q nin0
    have F237 := F231_0n.keep K235q nin0
    have Z238 : n0 ≤ T235.heap.size := Nat.le_trans Z233 K235q.1
    have K239 : Keep h0 T235.heap [] := K234.trans K235q all0
    have g_b235_0 : n0 ≤ b235_0 := Nat.le_trans Z233 F235_0
    have sz_b235_0 : h0.size ≤ b235_0 := Nat.le_trans K234.1 F235_0
    have ne_b196_b235_0 : b196 ≠ b235_0 := Nat.ne_of_lt (Nat.lt_of_lt_of_le F232.lt F235_0)
    have ne_b215_b235_0 : b215 ≠ b235_0 := Nat.ne_of_lt (Nat.lt_of_lt_of_le F231_0n.lt F235_0)
    obtain ⟨v92, hv92⟩ : ∃ z : Nat → Int32, z = (own_up (own_up (own_up (fun _ => (0 : Int32)) 0 (v68.toInt32)) 1 ((v68 + (((v62.toInt64) <<< (v58 &&& 0x3f).toInt64) ||| ((v63.toInt32).toInt64))).toInt32)) 2 (((v68 + (((v62.toInt64) <<< (v58 &&& 0x3f).toInt64) ||| ((v63.toInt32).toInt64))) + (((v64.toInt64) <<< (v58 &&& 0x3f).toInt64) ||| ((v65.toInt32).toInt64))).toInt32)) := ⟨_, rfl⟩
    have F235_1n : own_AI Z T235.heap b235_0 .int 3 v92 := by rw [hv92]; exact F235_1
    have N235 := Fr.app N231 N235q
    have hin359_240 : ¬ (0 : Int32) < 0 ∧ (0 : Int32).toNatClampNeg < 3 := by decide
    have hin377_241 : ¬ (1 : Int32) < 0 ∧ (1 : Int32).toNatClampNeg < 3 := by decide
    have hin395_242 : ¬ (2 : Int32) < 0 ∧ (2 : Int32).toNatClampNeg < 3 := by decide
    have hgo243 : ∀ t, Steps p.tables e below (T235.setTop (mkF m 405 #[.val (.long q0), .second, .val (.int p1), .val (.long q2), .second, .val (.long q3), .second, .val (.long q4), .second, .val (.long q5), .second, .val (.int (2 : Int32)), .val (.int v58), .val (.int v60), .val (.long v61), .second, .val (.int v62), .val (.long v63), .second, .val (.int v64), .val (.long v65), .second, .val (.long v66), .second, .val (.long v67), .second, .val (.long v68), .second, .val (.long v69), .second, .val (.long v70), .second, .val (.long v72), .second, .val (.int v58), .val (.ref b196), .val (.int v83), .val (.ref b215), .val (.ref b235_0)] [(.int (1 : Int32))])) t → Steps p.tables e below (s₁.setTop (mkF m 8 #[.val (.long q0), .second, .val (.int p1), .val (.long q2), .second, .val (.long q3), .second, .val (.long q4), .second, .val (.long q5), .second, .val (.int v1), .unset, .unset, .unset, .unset, .unset, .unset, .unset, .unset, .unset, .unset, .unset, .unset, .unset, .unset, .unset, .unset, .unset, .unset, .unset, .unset, .unset, .unset, .unset, .unset, .unset, .unset, .unset] [])) t := by
      intro t kt
      show Steps p.tables e below (s₁.setTop (mkF m 8 #[.val (.long q0), .second, .val (.int p1), .val (.long q2), .second, .val (.long q3), .second, .val (.long q4), .second, .val (.long q5), .second, .val (.int v1), .unset, .unset, .unset, .unset, .unset, .unset, .unset, .unset, .unset, .unset, .unset, .unset, .unset, .unset, .unset, .unset, .unset, .unset, .unset, .unset, .unset, .unset, .unset, .unset, .unset, .unset, .unset] [])) _
      rw [hs8_57]
      show Steps p.tables e below (s₁.setTop (mkF m 8 #[.val (.long q0), .second, .val (.int p1), .val (.long q2), .second, .val (.long q3), .second, .val (.long q4), .second, .val (.long q5), .second, .val (.int (2 : Int32)), .unset, .unset, .unset, .unset, .unset, .unset, .unset, .unset, .unset, .unset, .unset, .unset, .unset, .unset, .unset, .unset, .unset, .unset, .unset, .unset, .unset, .unset, .unset, .unset, .unset, .unset, .unset] [])) _
      refine XS.iconst X0.here hx rfl (hb hby at_8) ?_
      refine XS.iloadN X0.here hx rfl (hb hby at_9) rfl ?_
      refine XS.iconst X0.here hx rfl (hb hby at_10) ?_
      show Steps p.tables e below (s₁.setTop (mkF m 11 #[.val (.long q0), .second, .val (.int p1), .val (.long q2), .second, .val (.long q3), .second, .val (.long q4), .second, .val (.long q5), .second, .val (.int (2 : Int32)), .unset, .unset, .unset, .unset, .unset, .unset, .unset, .unset, .unset, .unset, .unset, .unset, .unset, .unset, .unset, .unset, .unset, .unset, .unset, .unset, .unset, .unset, .unset, .unset, .unset, .unset, .unset] [(.int (2 : Int32)), (.int p1), (.int (2 : Int32))])) _
      refine XS.iushr X0.here hx rfl (hb hby at_11) rfl ?_
      show Steps p.tables e below (s₁.setTop (mkF m 12 #[.val (.long q0), .second, .val (.int p1), .val (.long q2), .second, .val (.long q3), .second, .val (.long q4), .second, .val (.long q5), .second, .val (.int (2 : Int32)), .unset, .unset, .unset, .unset, .unset, .unset, .unset, .unset, .unset, .unset, .unset, .unset, .unset, .unset, .unset, .unset, .unset, .unset, .unset, .unset, .unset, .unset, .unset, .unset, .unset, .unset, .unset] [(.int ((p1.toUInt32 >>> ((2 : Int32) &&& 31).toUInt32).toInt32)), (.int (2 : Int32))])) _
      refine XS.bipush X0.here hx rfl (hb hby at_12) ?_
      show Steps p.tables e below (s₁.setTop (mkF m 14 #[.val (.long q0), .second, .val (.int p1), .val (.long q2), .second, .val (.long q3), .second, .val (.long q4), .second, .val (.long q5), .second, .val (.int (2 : Int32)), .unset, .unset, .unset, .unset, .unset, .unset, .unset, .unset, .unset, .unset, .unset, .unset, .unset, .unset, .unset, .unset, .unset, .unset, .unset, .unset, .unset, .unset, .unset, .unset, .unset, .unset, .unset] [(.int (27 : Int32)), (.int ((p1.toUInt32 >>> ((2 : Int32) &&& 31).toUInt32).toInt32)), (.int (2 : Int32))])) _
      refine XS.irem X0.here hx rfl (hb hby at_14) rfl hnz14_190 ?_
      rw [own_remI ((p1.toUInt32 >>> ((2 : Int32) &&& 31).toUInt32).toInt32) (27 : Int32)]
      show Steps p.tables e below (s₁.setTop (mkF m 15 #[.val (.long q0), .second, .val (.int p1), .val (.long q2), .second, .val (.long q3), .second, .val (.long q4), .second, .val (.long q5), .second, .val (.int (2 : Int32)), .unset, .unset, .unset, .unset, .unset, .unset, .unset, .unset, .unset, .unset, .unset, .unset, .unset, .unset, .unset, .unset, .unset, .unset, .unset, .unset, .unset, .unset, .unset, .unset, .unset, .unset, .unset] [(.int (((p1.toUInt32 >>> ((2 : Int32) &&& 31).toUInt32).toInt32) % (27 : Int32))), (.int (2 : Int32))])) _
      refine XS.iadd X0.here hx rfl (hb hby at_15) rfl ?_
      show Steps p.tables e below (s₁.setTop (mkF m 16 #[.val (.long q0), .second, .val (.int p1), .val (.long q2), .second, .val (.long q3), .second, .val (.long q4), .second, .val (.long q5), .second, .val (.int (2 : Int32)), .unset, .unset, .unset, .unset, .unset, .unset, .unset, .unset, .unset, .unset, .unset, .unset, .unset, .unset, .unset, .unset, .unset, .unset, .unset, .unset, .unset, .unset, .unset, .unset, .unset, .unset, .unset] [(.int ((2 : Int32) + (((p1.toUInt32 >>> ((2 : Int32) &&& 31).toUInt32).toInt32) % (27 : Int32))))])) _
      rw [← hv58]
      show Steps p.tables e below (s₁.setTop (mkF m 16 #[.val (.long q0), .second, .val (.int p1), .val (.long q2), .second, .val (.long q3), .second, .val (.long q4), .second, .val (.long q5), .second, .val (.int (2 : Int32)), .unset, .unset, .unset, .unset, .unset, .unset, .unset, .unset, .unset, .unset, .unset, .unset, .unset, .unset, .unset, .unset, .unset, .unset, .unset, .unset, .unset, .unset, .unset, .unset, .unset, .unset, .unset] [(.int v58)])) _
      refine XS.istore X0.here hx rfl (hb hby at_16) rfl (l' := #[.val (.long q0), .second, .val (.int p1), .val (.long q2), .second, .val (.long q3), .second, .val (.long q4), .second, .val (.long q5), .second, .val (.int (2 : Int32)), .val (.int v58), .unset, .unset, .unset, .unset, .unset, .unset, .unset, .unset, .unset, .unset, .unset, .unset, .unset, .unset, .unset, .unset, .unset, .unset, .unset, .unset, .unset, .unset, .unset, .unset, .unset, .unset]) rfl ?_
      show Steps p.tables e below (s₁.setTop (mkF m 18 #[.val (.long q0), .second, .val (.int p1), .val (.long q2), .second, .val (.long q3), .second, .val (.long q4), .second, .val (.long q5), .second, .val (.int (2 : Int32)), .val (.int v58), .unset, .unset, .unset, .unset, .unset, .unset, .unset, .unset, .unset, .unset, .unset, .unset, .unset, .unset, .unset, .unset, .unset, .unset, .unset, .unset, .unset, .unset, .unset, .unset, .unset, .unset] [])) _
      refine XS.iload X0.here hx rfl (hb hby at_18) rfl ?_
      refine XS.bipush X0.here hx rfl (hb hby at_20) ?_
      show Steps p.tables e below (s₁.setTop (mkF m 22 #[.val (.long q0), .second, .val (.int p1), .val (.long q2), .second, .val (.long q3), .second, .val (.long q4), .second, .val (.long q5), .second, .val (.int (2 : Int32)), .val (.int v58), .unset, .unset, .unset, .unset, .unset, .unset, .unset, .unset, .unset, .unset, .unset, .unset, .unset, .unset, .unset, .unset, .unset, .unset, .unset, .unset, .unset, .unset, .unset, .unset, .unset, .unset] [(.int (25 : Int32)), (.int v58)])) _
      refine st193 _ ?_
      show Steps p.tables e below (T193.setTop (mkF m 39 #[.val (.long q0), .second, .val (.int p1), .val (.long q2), .second, .val (.long q3), .second, .val (.long q4), .second, .val (.long q5), .second, .val (.int (2 : Int32)), .val (.int v58), .unset, .unset, .unset, .unset, .unset, .unset, .unset, .unset, .unset, .unset, .unset, .unset, .unset, .unset, .unset, .unset, .unset, .unset, .unset, .unset, .unset, .unset, .unset, .unset, .unset, .unset] [(.int v60)])) _
      refine XS.istore X193.here hx rfl (hb hby at_39) rfl (l' := #[.val (.long q0), .second, .val (.int p1), .val (.long q2), .second, .val (.long q3), .second, .val (.long q4), .second, .val (.long q5), .second, .val (.int (2 : Int32)), .val (.int v58), .val (.int v60), .unset, .unset, .unset, .unset, .unset, .unset, .unset, .unset, .unset, .unset, .unset, .unset, .unset, .unset, .unset, .unset, .unset, .unset, .unset, .unset, .unset, .unset, .unset, .unset, .unset]) rfl ?_
      show Steps p.tables e below (T193.setTop (mkF m 41 #[.val (.long q0), .second, .val (.int p1), .val (.long q2), .second, .val (.long q3), .second, .val (.long q4), .second, .val (.long q5), .second, .val (.int (2 : Int32)), .val (.int v58), .val (.int v60), .unset, .unset, .unset, .unset, .unset, .unset, .unset, .unset, .unset, .unset, .unset, .unset, .unset, .unset, .unset, .unset, .unset, .unset, .unset, .unset, .unset, .unset, .unset, .unset, .unset] [])) _
      refine XS.lconst X193.here hx rfl (hb hby at_41) ?_
      refine XS.iload X193.here hx rfl (hb hby at_42) rfl ?_
      refine XS.lshl X193.here hx rfl (hb hby at_44) rfl ?_
      show Steps p.tables e below (T193.setTop (mkF m 45 #[.val (.long q0), .second, .val (.int p1), .val (.long q2), .second, .val (.long q3), .second, .val (.long q4), .second, .val (.long q5), .second, .val (.int (2 : Int32)), .val (.int v58), .val (.int v60), .unset, .unset, .unset, .unset, .unset, .unset, .unset, .unset, .unset, .unset, .unset, .unset, .unset, .unset, .unset, .unset, .unset, .unset, .unset, .unset, .unset, .unset, .unset, .unset, .unset] [(.long ((1 : Int64) <<< (v58 &&& 0x3f).toInt64))])) _
      refine XS.lconst X193.here hx rfl (hb hby at_45) ?_
      refine XS.lsub X193.here hx rfl (hb hby at_46) rfl ?_
      show Steps p.tables e below (T193.setTop (mkF m 47 #[.val (.long q0), .second, .val (.int p1), .val (.long q2), .second, .val (.long q3), .second, .val (.long q4), .second, .val (.long q5), .second, .val (.int (2 : Int32)), .val (.int v58), .val (.int v60), .unset, .unset, .unset, .unset, .unset, .unset, .unset, .unset, .unset, .unset, .unset, .unset, .unset, .unset, .unset, .unset, .unset, .unset, .unset, .unset, .unset, .unset, .unset, .unset, .unset] [(.long (((1 : Int64) <<< (v58 &&& 0x3f).toInt64) - (1 : Int64)))])) _
      rw [← hv61]
      show Steps p.tables e below (T193.setTop (mkF m 47 #[.val (.long q0), .second, .val (.int p1), .val (.long q2), .second, .val (.long q3), .second, .val (.long q4), .second, .val (.long q5), .second, .val (.int (2 : Int32)), .val (.int v58), .val (.int v60), .unset, .unset, .unset, .unset, .unset, .unset, .unset, .unset, .unset, .unset, .unset, .unset, .unset, .unset, .unset, .unset, .unset, .unset, .unset, .unset, .unset, .unset, .unset, .unset, .unset] [(.long v61)])) _
      refine XS.lstore X193.here hx rfl (hb hby at_47) rfl (l' := #[.val (.long q0), .second, .val (.int p1), .val (.long q2), .second, .val (.long q3), .second, .val (.long q4), .second, .val (.long q5), .second, .val (.int (2 : Int32)), .val (.int v58), .val (.int v60), .val (.long v61), .second, .unset, .unset, .unset, .unset, .unset, .unset, .unset, .unset, .unset, .unset, .unset, .unset, .unset, .unset, .unset, .unset, .unset, .unset, .unset, .unset, .unset, .unset, .unset]) rfl ?_
      show Steps p.tables e below (T193.setTop (mkF m 49 #[.val (.long q0), .second, .val (.int p1), .val (.long q2), .second, .val (.long q3), .second, .val (.long q4), .second, .val (.long q5), .second, .val (.int (2 : Int32)), .val (.int v58), .val (.int v60), .val (.long v61), .second, .unset, .unset, .unset, .unset, .unset, .unset, .unset, .unset, .unset, .unset, .unset, .unset, .unset, .unset, .unset, .unset, .unset, .unset, .unset, .unset, .unset, .unset, .unset] [])) _
      refine XS.lloadN X193.here hx rfl (hb hby at_49) rfl ?_
      refine XS.iload X193.here hx rfl (hb hby at_50) rfl ?_
      refine XS.i2l X193.here hx rfl (hb hby at_52) rfl ?_
      show Steps p.tables e below (T193.setTop (mkF m 53 #[.val (.long q0), .second, .val (.int p1), .val (.long q2), .second, .val (.long q3), .second, .val (.long q4), .second, .val (.long q5), .second, .val (.int (2 : Int32)), .val (.int v58), .val (.int v60), .val (.long v61), .second, .unset, .unset, .unset, .unset, .unset, .unset, .unset, .unset, .unset, .unset, .unset, .unset, .unset, .unset, .unset, .unset, .unset, .unset, .unset, .unset, .unset, .unset, .unset] [(.long (v60.toInt64)), (.long q2)])) _
      refine XS.land X193.here hx rfl (hb hby at_53) rfl ?_
      show Steps p.tables e below (T193.setTop (mkF m 54 #[.val (.long q0), .second, .val (.int p1), .val (.long q2), .second, .val (.long q3), .second, .val (.long q4), .second, .val (.long q5), .second, .val (.int (2 : Int32)), .val (.int v58), .val (.int v60), .val (.long v61), .second, .unset, .unset, .unset, .unset, .unset, .unset, .unset, .unset, .unset, .unset, .unset, .unset, .unset, .unset, .unset, .unset, .unset, .unset, .unset, .unset, .unset, .unset, .unset] [(.long (q2 &&& (v60.toInt64)))])) _
      refine XS.l2i X193.here hx rfl (hb hby at_54) rfl ?_
      show Steps p.tables e below (T193.setTop (mkF m 55 #[.val (.long q0), .second, .val (.int p1), .val (.long q2), .second, .val (.long q3), .second, .val (.long q4), .second, .val (.long q5), .second, .val (.int (2 : Int32)), .val (.int v58), .val (.int v60), .val (.long v61), .second, .unset, .unset, .unset, .unset, .unset, .unset, .unset, .unset, .unset, .unset, .unset, .unset, .unset, .unset, .unset, .unset, .unset, .unset, .unset, .unset, .unset, .unset, .unset] [(.int ((q2 &&& (v60.toInt64)).toInt32))])) _
      rw [← hv62]
      show Steps p.tables e below (T193.setTop (mkF m 55 #[.val (.long q0), .second, .val (.int p1), .val (.long q2), .second, .val (.long q3), .second, .val (.long q4), .second, .val (.long q5), .second, .val (.int (2 : Int32)), .val (.int v58), .val (.int v60), .val (.long v61), .second, .unset, .unset, .unset, .unset, .unset, .unset, .unset, .unset, .unset, .unset, .unset, .unset, .unset, .unset, .unset, .unset, .unset, .unset, .unset, .unset, .unset, .unset, .unset] [(.int v62)])) _
      refine XS.istore X193.here hx rfl (hb hby at_55) rfl (l' := #[.val (.long q0), .second, .val (.int p1), .val (.long q2), .second, .val (.long q3), .second, .val (.long q4), .second, .val (.long q5), .second, .val (.int (2 : Int32)), .val (.int v58), .val (.int v60), .val (.long v61), .second, .val (.int v62), .unset, .unset, .unset, .unset, .unset, .unset, .unset, .unset, .unset, .unset, .unset, .unset, .unset, .unset, .unset, .unset, .unset, .unset, .unset, .unset, .unset, .unset]) rfl ?_
      show Steps p.tables e below (T193.setTop (mkF m 57 #[.val (.long q0), .second, .val (.int p1), .val (.long q2), .second, .val (.long q3), .second, .val (.long q4), .second, .val (.long q5), .second, .val (.int (2 : Int32)), .val (.int v58), .val (.int v60), .val (.long v61), .second, .val (.int v62), .unset, .unset, .unset, .unset, .unset, .unset, .unset, .unset, .unset, .unset, .unset, .unset, .unset, .unset, .unset, .unset, .unset, .unset, .unset, .unset, .unset, .unset] [])) _
      refine XS.lloadN X193.here hx rfl (hb hby at_57) rfl ?_
      refine XS.bipush X193.here hx rfl (hb hby at_58) ?_
      refine XS.lushr X193.here hx rfl (hb hby at_60) rfl ?_
      show Steps p.tables e below (T193.setTop (mkF m 61 #[.val (.long q0), .second, .val (.int p1), .val (.long q2), .second, .val (.long q3), .second, .val (.long q4), .second, .val (.long q5), .second, .val (.int (2 : Int32)), .val (.int v58), .val (.int v60), .val (.long v61), .second, .val (.int v62), .unset, .unset, .unset, .unset, .unset, .unset, .unset, .unset, .unset, .unset, .unset, .unset, .unset, .unset, .unset, .unset, .unset, .unset, .unset, .unset, .unset, .unset] [(.long ((q2.toUInt64 >>> ((6 : Int32) &&& 0x3f).toInt64.toUInt64).toInt64))])) _
      refine XS.lload X193.here hx rfl (hb hby at_61) rfl ?_
      refine XS.land X193.here hx rfl (hb hby at_63) rfl ?_
      show Steps p.tables e below (T193.setTop (mkF m 64 #[.val (.long q0), .second, .val (.int p1), .val (.long q2), .second, .val (.long q3), .second, .val (.long q4), .second, .val (.long q5), .second, .val (.int (2 : Int32)), .val (.int v58), .val (.int v60), .val (.long v61), .second, .val (.int v62), .unset, .unset, .unset, .unset, .unset, .unset, .unset, .unset, .unset, .unset, .unset, .unset, .unset, .unset, .unset, .unset, .unset, .unset, .unset, .unset, .unset, .unset] [(.long (((q2.toUInt64 >>> ((6 : Int32) &&& 0x3f).toInt64.toUInt64).toInt64) &&& v61))])) _
      rw [← hv63]
      show Steps p.tables e below (T193.setTop (mkF m 64 #[.val (.long q0), .second, .val (.int p1), .val (.long q2), .second, .val (.long q3), .second, .val (.long q4), .second, .val (.long q5), .second, .val (.int (2 : Int32)), .val (.int v58), .val (.int v60), .val (.long v61), .second, .val (.int v62), .unset, .unset, .unset, .unset, .unset, .unset, .unset, .unset, .unset, .unset, .unset, .unset, .unset, .unset, .unset, .unset, .unset, .unset, .unset, .unset, .unset, .unset] [(.long v63)])) _
      refine XS.lstore X193.here hx rfl (hb hby at_64) rfl (l' := #[.val (.long q0), .second, .val (.int p1), .val (.long q2), .second, .val (.long q3), .second, .val (.long q4), .second, .val (.long q5), .second, .val (.int (2 : Int32)), .val (.int v58), .val (.int v60), .val (.long v61), .second, .val (.int v62), .val (.long v63), .second, .unset, .unset, .unset, .unset, .unset, .unset, .unset, .unset, .unset, .unset, .unset, .unset, .unset, .unset, .unset, .unset, .unset, .unset, .unset, .unset]) rfl ?_
      show Steps p.tables e below (T193.setTop (mkF m 66 #[.val (.long q0), .second, .val (.int p1), .val (.long q2), .second, .val (.long q3), .second, .val (.long q4), .second, .val (.long q5), .second, .val (.int (2 : Int32)), .val (.int v58), .val (.int v60), .val (.long v61), .second, .val (.int v62), .val (.long v63), .second, .unset, .unset, .unset, .unset, .unset, .unset, .unset, .unset, .unset, .unset, .unset, .unset, .unset, .unset, .unset, .unset, .unset, .unset, .unset, .unset] [])) _
      refine XS.lload X193.here hx rfl (hb hby at_66) rfl ?_
      refine XS.iload X193.here hx rfl (hb hby at_68) rfl ?_
      refine XS.i2l X193.here hx rfl (hb hby at_70) rfl ?_
      show Steps p.tables e below (T193.setTop (mkF m 71 #[.val (.long q0), .second, .val (.int p1), .val (.long q2), .second, .val (.long q3), .second, .val (.long q4), .second, .val (.long q5), .second, .val (.int (2 : Int32)), .val (.int v58), .val (.int v60), .val (.long v61), .second, .val (.int v62), .val (.long v63), .second, .unset, .unset, .unset, .unset, .unset, .unset, .unset, .unset, .unset, .unset, .unset, .unset, .unset, .unset, .unset, .unset, .unset, .unset, .unset, .unset] [(.long (v60.toInt64)), (.long q3)])) _
      refine XS.land X193.here hx rfl (hb hby at_71) rfl ?_
      show Steps p.tables e below (T193.setTop (mkF m 72 #[.val (.long q0), .second, .val (.int p1), .val (.long q2), .second, .val (.long q3), .second, .val (.long q4), .second, .val (.long q5), .second, .val (.int (2 : Int32)), .val (.int v58), .val (.int v60), .val (.long v61), .second, .val (.int v62), .val (.long v63), .second, .unset, .unset, .unset, .unset, .unset, .unset, .unset, .unset, .unset, .unset, .unset, .unset, .unset, .unset, .unset, .unset, .unset, .unset, .unset, .unset] [(.long (q3 &&& (v60.toInt64)))])) _
      refine XS.l2i X193.here hx rfl (hb hby at_72) rfl ?_
      show Steps p.tables e below (T193.setTop (mkF m 73 #[.val (.long q0), .second, .val (.int p1), .val (.long q2), .second, .val (.long q3), .second, .val (.long q4), .second, .val (.long q5), .second, .val (.int (2 : Int32)), .val (.int v58), .val (.int v60), .val (.long v61), .second, .val (.int v62), .val (.long v63), .second, .unset, .unset, .unset, .unset, .unset, .unset, .unset, .unset, .unset, .unset, .unset, .unset, .unset, .unset, .unset, .unset, .unset, .unset, .unset, .unset] [(.int ((q3 &&& (v60.toInt64)).toInt32))])) _
      rw [← hv64]
      show Steps p.tables e below (T193.setTop (mkF m 73 #[.val (.long q0), .second, .val (.int p1), .val (.long q2), .second, .val (.long q3), .second, .val (.long q4), .second, .val (.long q5), .second, .val (.int (2 : Int32)), .val (.int v58), .val (.int v60), .val (.long v61), .second, .val (.int v62), .val (.long v63), .second, .unset, .unset, .unset, .unset, .unset, .unset, .unset, .unset, .unset, .unset, .unset, .unset, .unset, .unset, .unset, .unset, .unset, .unset, .unset, .unset] [(.int v64)])) _
      refine XS.istore X193.here hx rfl (hb hby at_73) rfl (l' := #[.val (.long q0), .second, .val (.int p1), .val (.long q2), .second, .val (.long q3), .second, .val (.long q4), .second, .val (.long q5), .second, .val (.int (2 : Int32)), .val (.int v58), .val (.int v60), .val (.long v61), .second, .val (.int v62), .val (.long v63), .second, .val (.int v64), .unset, .unset, .unset, .unset, .unset, .unset, .unset, .unset, .unset, .unset, .unset, .unset, .unset, .unset, .unset, .unset, .unset, .unset, .unset]) rfl ?_
      show Steps p.tables e below (T193.setTop (mkF m 75 #[.val (.long q0), .second, .val (.int p1), .val (.long q2), .second, .val (.long q3), .second, .val (.long q4), .second, .val (.long q5), .second, .val (.int (2 : Int32)), .val (.int v58), .val (.int v60), .val (.long v61), .second, .val (.int v62), .val (.long v63), .second, .val (.int v64), .unset, .unset, .unset, .unset, .unset, .unset, .unset, .unset, .unset, .unset, .unset, .unset, .unset, .unset, .unset, .unset, .unset, .unset, .unset] [])) _
      refine XS.lload X193.here hx rfl (hb hby at_75) rfl ?_
      refine XS.bipush X193.here hx rfl (hb hby at_77) ?_
      refine XS.lushr X193.here hx rfl (hb hby at_79) rfl ?_
      show Steps p.tables e below (T193.setTop (mkF m 80 #[.val (.long q0), .second, .val (.int p1), .val (.long q2), .second, .val (.long q3), .second, .val (.long q4), .second, .val (.long q5), .second, .val (.int (2 : Int32)), .val (.int v58), .val (.int v60), .val (.long v61), .second, .val (.int v62), .val (.long v63), .second, .val (.int v64), .unset, .unset, .unset, .unset, .unset, .unset, .unset, .unset, .unset, .unset, .unset, .unset, .unset, .unset, .unset, .unset, .unset, .unset, .unset] [(.long ((q3.toUInt64 >>> ((6 : Int32) &&& 0x3f).toInt64.toUInt64).toInt64))])) _
      refine XS.lload X193.here hx rfl (hb hby at_80) rfl ?_
      refine XS.land X193.here hx rfl (hb hby at_82) rfl ?_
      show Steps p.tables e below (T193.setTop (mkF m 83 #[.val (.long q0), .second, .val (.int p1), .val (.long q2), .second, .val (.long q3), .second, .val (.long q4), .second, .val (.long q5), .second, .val (.int (2 : Int32)), .val (.int v58), .val (.int v60), .val (.long v61), .second, .val (.int v62), .val (.long v63), .second, .val (.int v64), .unset, .unset, .unset, .unset, .unset, .unset, .unset, .unset, .unset, .unset, .unset, .unset, .unset, .unset, .unset, .unset, .unset, .unset, .unset] [(.long (((q3.toUInt64 >>> ((6 : Int32) &&& 0x3f).toInt64.toUInt64).toInt64) &&& v61))])) _
      rw [← hv65]
      show Steps p.tables e below (T193.setTop (mkF m 83 #[.val (.long q0), .second, .val (.int p1), .val (.long q2), .second, .val (.long q3), .second, .val (.long q4), .second, .val (.long q5), .second, .val (.int (2 : Int32)), .val (.int v58), .val (.int v60), .val (.long v61), .second, .val (.int v62), .val (.long v63), .second, .val (.int v64), .unset, .unset, .unset, .unset, .unset, .unset, .unset, .unset, .unset, .unset, .unset, .unset, .unset, .unset, .unset, .unset, .unset, .unset, .unset] [(.long v65)])) _
      refine XS.lstore X193.here hx rfl (hb hby at_83) rfl (l' := #[.val (.long q0), .second, .val (.int p1), .val (.long q2), .second, .val (.long q3), .second, .val (.long q4), .second, .val (.long q5), .second, .val (.int (2 : Int32)), .val (.int v58), .val (.int v60), .val (.long v61), .second, .val (.int v62), .val (.long v63), .second, .val (.int v64), .val (.long v65), .second, .unset, .unset, .unset, .unset, .unset, .unset, .unset, .unset, .unset, .unset, .unset, .unset, .unset, .unset, .unset, .unset, .unset]) rfl ?_
      show Steps p.tables e below (T193.setTop (mkF m 85 #[.val (.long q0), .second, .val (.int p1), .val (.long q2), .second, .val (.long q3), .second, .val (.long q4), .second, .val (.long q5), .second, .val (.int (2 : Int32)), .val (.int v58), .val (.int v60), .val (.long v61), .second, .val (.int v62), .val (.long v63), .second, .val (.int v64), .val (.long v65), .second, .unset, .unset, .unset, .unset, .unset, .unset, .unset, .unset, .unset, .unset, .unset, .unset, .unset, .unset, .unset, .unset, .unset] [])) _
      refine XS.iload X193.here hx rfl (hb hby at_85) rfl ?_
      refine XS.iconst X193.here hx rfl (hb hby at_87) ?_
      refine XS.icmpNo X193.here hx rfl (hb hby at_88) rfl (flt (by decide : ¬ ((2 : Int32) < (1 : Int32)))).1 ?_
      show Steps p.tables e below (T193.setTop (mkF m 91 #[.val (.long q0), .second, .val (.int p1), .val (.long q2), .second, .val (.long q3), .second, .val (.long q4), .second, .val (.long q5), .second, .val (.int (2 : Int32)), .val (.int v58), .val (.int v60), .val (.long v61), .second, .val (.int v62), .val (.long v63), .second, .val (.int v64), .val (.long v65), .second, .unset, .unset, .unset, .unset, .unset, .unset, .unset, .unset, .unset, .unset, .unset, .unset, .unset, .unset, .unset, .unset, .unset] [])) _
      refine XS.iload X193.here hx rfl (hb hby at_91) rfl ?_
      refine XS.i2l X193.here hx rfl (hb hby at_93) rfl ?_
      show Steps p.tables e below (T193.setTop (mkF m 94 #[.val (.long q0), .second, .val (.int p1), .val (.long q2), .second, .val (.long q3), .second, .val (.long q4), .second, .val (.long q5), .second, .val (.int (2 : Int32)), .val (.int v58), .val (.int v60), .val (.long v61), .second, .val (.int v62), .val (.long v63), .second, .val (.int v64), .val (.long v65), .second, .unset, .unset, .unset, .unset, .unset, .unset, .unset, .unset, .unset, .unset, .unset, .unset, .unset, .unset, .unset, .unset, .unset] [(.long (v62.toInt64))])) _
      refine XS.iload X193.here hx rfl (hb hby at_94) rfl ?_
      refine XS.lshl X193.here hx rfl (hb hby at_96) rfl ?_
      show Steps p.tables e below (T193.setTop (mkF m 97 #[.val (.long q0), .second, .val (.int p1), .val (.long q2), .second, .val (.long q3), .second, .val (.long q4), .second, .val (.long q5), .second, .val (.int (2 : Int32)), .val (.int v58), .val (.int v60), .val (.long v61), .second, .val (.int v62), .val (.long v63), .second, .val (.int v64), .val (.long v65), .second, .unset, .unset, .unset, .unset, .unset, .unset, .unset, .unset, .unset, .unset, .unset, .unset, .unset, .unset, .unset, .unset, .unset] [(.long ((v62.toInt64) <<< (v58 &&& 0x3f).toInt64))])) _
      refine XS.lload X193.here hx rfl (hb hby at_97) rfl ?_
      refine XS.lor X193.here hx rfl (hb hby at_99) rfl ?_
      show Steps p.tables e below (T193.setTop (mkF m 100 #[.val (.long q0), .second, .val (.int p1), .val (.long q2), .second, .val (.long q3), .second, .val (.long q4), .second, .val (.long q5), .second, .val (.int (2 : Int32)), .val (.int v58), .val (.int v60), .val (.long v61), .second, .val (.int v62), .val (.long v63), .second, .val (.int v64), .val (.long v65), .second, .unset, .unset, .unset, .unset, .unset, .unset, .unset, .unset, .unset, .unset, .unset, .unset, .unset, .unset, .unset, .unset, .unset] [(.long (((v62.toInt64) <<< (v58 &&& 0x3f).toInt64) ||| v63))])) _
      refine XS.goto X193.here hx rfl (pc0 := 100) (pc' := 104) rfl (hb hby at_100) (by decide) (by decide) ?_
      show Steps p.tables e below (T193.setTop (mkF m 104 #[.val (.long q0), .second, .val (.int p1), .val (.long q2), .second, .val (.long q3), .second, .val (.long q4), .second, .val (.long q5), .second, .val (.int (2 : Int32)), .val (.int v58), .val (.int v60), .val (.long v61), .second, .val (.int v62), .val (.long v63), .second, .val (.int v64), .val (.long v65), .second, .unset, .unset, .unset, .unset, .unset, .unset, .unset, .unset, .unset, .unset, .unset, .unset, .unset, .unset, .unset, .unset, .unset] [(.long (((v62.toInt64) <<< (v58 &&& 0x3f).toInt64) ||| v63))])) _
      rw [← hv66]
      show Steps p.tables e below (T193.setTop (mkF m 104 #[.val (.long q0), .second, .val (.int p1), .val (.long q2), .second, .val (.long q3), .second, .val (.long q4), .second, .val (.long q5), .second, .val (.int (2 : Int32)), .val (.int v58), .val (.int v60), .val (.long v61), .second, .val (.int v62), .val (.long v63), .second, .val (.int v64), .val (.long v65), .second, .unset, .unset, .unset, .unset, .unset, .unset, .unset, .unset, .unset, .unset, .unset, .unset, .unset, .unset, .unset, .unset, .unset] [(.long v66)])) _
      refine XS.lstore X193.here hx rfl (hb hby at_104) rfl (l' := #[.val (.long q0), .second, .val (.int p1), .val (.long q2), .second, .val (.long q3), .second, .val (.long q4), .second, .val (.long q5), .second, .val (.int (2 : Int32)), .val (.int v58), .val (.int v60), .val (.long v61), .second, .val (.int v62), .val (.long v63), .second, .val (.int v64), .val (.long v65), .second, .val (.long v66), .second, .unset, .unset, .unset, .unset, .unset, .unset, .unset, .unset, .unset, .unset, .unset, .unset, .unset, .unset, .unset]) rfl ?_
      show Steps p.tables e below (T193.setTop (mkF m 106 #[.val (.long q0), .second, .val (.int p1), .val (.long q2), .second, .val (.long q3), .second, .val (.long q4), .second, .val (.long q5), .second, .val (.int (2 : Int32)), .val (.int v58), .val (.int v60), .val (.long v61), .second, .val (.int v62), .val (.long v63), .second, .val (.int v64), .val (.long v65), .second, .val (.long v66), .second, .unset, .unset, .unset, .unset, .unset, .unset, .unset, .unset, .unset, .unset, .unset, .unset, .unset, .unset, .unset] [])) _
      refine XS.iload X193.here hx rfl (hb hby at_106) rfl ?_
      refine XS.iconst X193.here hx rfl (hb hby at_108) ?_
      refine XS.icmpNo X193.here hx rfl (hb hby at_109) rfl (teq (by decide : (2 : Int32) = (2 : Int32))).2 ?_
      show Steps p.tables e below (T193.setTop (mkF m 112 #[.val (.long q0), .second, .val (.int p1), .val (.long q2), .second, .val (.long q3), .second, .val (.long q4), .second, .val (.long q5), .second, .val (.int (2 : Int32)), .val (.int v58), .val (.int v60), .val (.long v61), .second, .val (.int v62), .val (.long v63), .second, .val (.int v64), .val (.long v65), .second, .val (.long v66), .second, .unset, .unset, .unset, .unset, .unset, .unset, .unset, .unset, .unset, .unset, .unset, .unset, .unset, .unset, .unset] [])) _
      refine XS.iload X193.here hx rfl (hb hby at_112) rfl ?_
      refine XS.i2l X193.here hx rfl (hb hby at_114) rfl ?_
      show Steps p.tables e below (T193.setTop (mkF m 115 #[.val (.long q0), .second, .val (.int p1), .val (.long q2), .second, .val (.long q3), .second, .val (.long q4), .second, .val (.long q5), .second, .val (.int (2 : Int32)), .val (.int v58), .val (.int v60), .val (.long v61), .second, .val (.int v62), .val (.long v63), .second, .val (.int v64), .val (.long v65), .second, .val (.long v66), .second, .unset, .unset, .unset, .unset, .unset, .unset, .unset, .unset, .unset, .unset, .unset, .unset, .unset, .unset, .unset] [(.long (v64.toInt64))])) _
      refine XS.iload X193.here hx rfl (hb hby at_115) rfl ?_
      refine XS.lshl X193.here hx rfl (hb hby at_117) rfl ?_
      show Steps p.tables e below (T193.setTop (mkF m 118 #[.val (.long q0), .second, .val (.int p1), .val (.long q2), .second, .val (.long q3), .second, .val (.long q4), .second, .val (.long q5), .second, .val (.int (2 : Int32)), .val (.int v58), .val (.int v60), .val (.long v61), .second, .val (.int v62), .val (.long v63), .second, .val (.int v64), .val (.long v65), .second, .val (.long v66), .second, .unset, .unset, .unset, .unset, .unset, .unset, .unset, .unset, .unset, .unset, .unset, .unset, .unset, .unset, .unset] [(.long ((v64.toInt64) <<< (v58 &&& 0x3f).toInt64))])) _
      refine XS.lload X193.here hx rfl (hb hby at_118) rfl ?_
      refine XS.lor X193.here hx rfl (hb hby at_120) rfl ?_
      show Steps p.tables e below (T193.setTop (mkF m 121 #[.val (.long q0), .second, .val (.int p1), .val (.long q2), .second, .val (.long q3), .second, .val (.long q4), .second, .val (.long q5), .second, .val (.int (2 : Int32)), .val (.int v58), .val (.int v60), .val (.long v61), .second, .val (.int v62), .val (.long v63), .second, .val (.int v64), .val (.long v65), .second, .val (.long v66), .second, .unset, .unset, .unset, .unset, .unset, .unset, .unset, .unset, .unset, .unset, .unset, .unset, .unset, .unset, .unset] [(.long (((v64.toInt64) <<< (v58 &&& 0x3f).toInt64) ||| v65))])) _
      refine XS.goto X193.here hx rfl (pc0 := 121) (pc' := 125) rfl (hb hby at_121) (by decide) (by decide) ?_
      show Steps p.tables e below (T193.setTop (mkF m 125 #[.val (.long q0), .second, .val (.int p1), .val (.long q2), .second, .val (.long q3), .second, .val (.long q4), .second, .val (.long q5), .second, .val (.int (2 : Int32)), .val (.int v58), .val (.int v60), .val (.long v61), .second, .val (.int v62), .val (.long v63), .second, .val (.int v64), .val (.long v65), .second, .val (.long v66), .second, .unset, .unset, .unset, .unset, .unset, .unset, .unset, .unset, .unset, .unset, .unset, .unset, .unset, .unset, .unset] [(.long (((v64.toInt64) <<< (v58 &&& 0x3f).toInt64) ||| v65))])) _
      rw [← hv67]
      show Steps p.tables e below (T193.setTop (mkF m 125 #[.val (.long q0), .second, .val (.int p1), .val (.long q2), .second, .val (.long q3), .second, .val (.long q4), .second, .val (.long q5), .second, .val (.int (2 : Int32)), .val (.int v58), .val (.int v60), .val (.long v61), .second, .val (.int v62), .val (.long v63), .second, .val (.int v64), .val (.long v65), .second, .val (.long v66), .second, .unset, .unset, .unset, .unset, .unset, .unset, .unset, .unset, .unset, .unset, .unset, .unset, .unset, .unset, .unset] [(.long v67)])) _
      refine XS.lstore X193.here hx rfl (hb hby at_125) rfl (l' := #[.val (.long q0), .second, .val (.int p1), .val (.long q2), .second, .val (.long q3), .second, .val (.long q4), .second, .val (.long q5), .second, .val (.int (2 : Int32)), .val (.int v58), .val (.int v60), .val (.long v61), .second, .val (.int v62), .val (.long v63), .second, .val (.int v64), .val (.long v65), .second, .val (.long v66), .second, .val (.long v67), .second, .unset, .unset, .unset, .unset, .unset, .unset, .unset, .unset, .unset, .unset, .unset, .unset, .unset]) rfl ?_
      show Steps p.tables e below (T193.setTop (mkF m 127 #[.val (.long q0), .second, .val (.int p1), .val (.long q2), .second, .val (.long q3), .second, .val (.long q4), .second, .val (.long q5), .second, .val (.int (2 : Int32)), .val (.int v58), .val (.int v60), .val (.long v61), .second, .val (.int v62), .val (.long v63), .second, .val (.int v64), .val (.long v65), .second, .val (.long v66), .second, .val (.long v67), .second, .unset, .unset, .unset, .unset, .unset, .unset, .unset, .unset, .unset, .unset, .unset, .unset, .unset] [])) _
      refine XS.lloadN X193.here hx rfl (hb hby at_127) rfl ?_
      show Steps p.tables e below (T193.setTop (mkF m 128 #[.val (.long q0), .second, .val (.int p1), .val (.long q2), .second, .val (.long q3), .second, .val (.long q4), .second, .val (.long q5), .second, .val (.int (2 : Int32)), .val (.int v58), .val (.int v60), .val (.long v61), .second, .val (.int v62), .val (.long v63), .second, .val (.int v64), .val (.long v65), .second, .val (.long v66), .second, .val (.long v67), .second, .unset, .unset, .unset, .unset, .unset, .unset, .unset, .unset, .unset, .unset, .unset, .unset, .unset] [(.long q0)])) _
      refine X193.ldc2Long hx hown (mvT hZ (hw _ (List.mem_of_getElem? (i := 1) rfl))) (g := (mkF m 128 #[.val (.long q0), .second, .val (.int p1), .val (.long q2), .second, .val (.long q3), .second, .val (.long q4), .second, .val (.long q5), .second, .val (.int (2 : Int32)), .val (.int v58), .val (.int v60), .val (.long v61), .second, .val (.int v62), .val (.long v63), .second, .val (.int v64), .val (.long v65), .second, .val (.long v66), .second, .val (.long v67), .second, .unset, .unset, .unset, .unset, .unset, .unset, .unset, .unset, .unset, .unset, .unset, .unset, .unset] [(.long q0)])) rfl (hb hby at_128) _ ?_
      show Steps p.tables e below (T193.setTop (mkF m 131 #[.val (.long q0), .second, .val (.int p1), .val (.long q2), .second, .val (.long q3), .second, .val (.long q4), .second, .val (.long q5), .second, .val (.int (2 : Int32)), .val (.int v58), .val (.int v60), .val (.long v61), .second, .val (.int v62), .val (.long v63), .second, .val (.int v64), .val (.long v65), .second, .val (.long v66), .second, .val (.long v67), .second, .unset, .unset, .unset, .unset, .unset, .unset, .unset, .unset, .unset, .unset, .unset, .unset, .unset] [(.long (4294967295 : Int64)), (.long q0)])) _
      refine XS.land X193.here hx rfl (hb hby at_131) rfl ?_
      show Steps p.tables e below (T193.setTop (mkF m 132 #[.val (.long q0), .second, .val (.int p1), .val (.long q2), .second, .val (.long q3), .second, .val (.long q4), .second, .val (.long q5), .second, .val (.int (2 : Int32)), .val (.int v58), .val (.int v60), .val (.long v61), .second, .val (.int v62), .val (.long v63), .second, .val (.int v64), .val (.long v65), .second, .val (.long v66), .second, .val (.long v67), .second, .unset, .unset, .unset, .unset, .unset, .unset, .unset, .unset, .unset, .unset, .unset, .unset, .unset] [(.long (q0 &&& (4294967295 : Int64)))])) _
      refine X193.ldc2Long hx hown (mvT hZ (hw _ (List.mem_of_getElem? (i := 2) rfl))) (g := (mkF m 132 #[.val (.long q0), .second, .val (.int p1), .val (.long q2), .second, .val (.long q3), .second, .val (.long q4), .second, .val (.long q5), .second, .val (.int (2 : Int32)), .val (.int v58), .val (.int v60), .val (.long v61), .second, .val (.int v62), .val (.long v63), .second, .val (.int v64), .val (.long v65), .second, .val (.long v66), .second, .val (.long v67), .second, .unset, .unset, .unset, .unset, .unset, .unset, .unset, .unset, .unset, .unset, .unset, .unset, .unset] [(.long (q0 &&& (4294967295 : Int64)))])) rfl (hb hby at_132) _ ?_
      show Steps p.tables e below (T193.setTop (mkF m 135 #[.val (.long q0), .second, .val (.int p1), .val (.long q2), .second, .val (.long q3), .second, .val (.long q4), .second, .val (.long q5), .second, .val (.int (2 : Int32)), .val (.int v58), .val (.int v60), .val (.long v61), .second, .val (.int v62), .val (.long v63), .second, .val (.int v64), .val (.long v65), .second, .val (.long v66), .second, .val (.long v67), .second, .unset, .unset, .unset, .unset, .unset, .unset, .unset, .unset, .unset, .unset, .unset, .unset, .unset] [(.long (4294967296 : Int64)), (.long (q0 &&& (4294967295 : Int64)))])) _
      refine XS.lload X193.here hx rfl (hb hby at_135) rfl ?_
      refine XS.lsub X193.here hx rfl (hb hby at_137) rfl ?_
      show Steps p.tables e below (T193.setTop (mkF m 138 #[.val (.long q0), .second, .val (.int p1), .val (.long q2), .second, .val (.long q3), .second, .val (.long q4), .second, .val (.long q5), .second, .val (.int (2 : Int32)), .val (.int v58), .val (.int v60), .val (.long v61), .second, .val (.int v62), .val (.long v63), .second, .val (.int v64), .val (.long v65), .second, .val (.long v66), .second, .val (.long v67), .second, .unset, .unset, .unset, .unset, .unset, .unset, .unset, .unset, .unset, .unset, .unset, .unset, .unset] [(.long ((4294967296 : Int64) - v66)), (.long (q0 &&& (4294967295 : Int64)))])) _
      refine XS.lload X193.here hx rfl (hb hby at_138) rfl ?_
      refine XS.lsub X193.here hx rfl (hb hby at_140) rfl ?_
      show Steps p.tables e below (T193.setTop (mkF m 141 #[.val (.long q0), .second, .val (.int p1), .val (.long q2), .second, .val (.long q3), .second, .val (.long q4), .second, .val (.long q5), .second, .val (.int (2 : Int32)), .val (.int v58), .val (.int v60), .val (.long v61), .second, .val (.int v62), .val (.long v63), .second, .val (.int v64), .val (.long v65), .second, .val (.long v66), .second, .val (.long v67), .second, .unset, .unset, .unset, .unset, .unset, .unset, .unset, .unset, .unset, .unset, .unset, .unset, .unset] [(.long (((4294967296 : Int64) - v66) - v67)), (.long (q0 &&& (4294967295 : Int64)))])) _
      refine XS.lrem X193.here hx rfl (hb hby at_141) rfl hnz141_194 ?_
      rw [own_remJ (q0 &&& (4294967295 : Int64)) (((4294967296 : Int64) - v66) - v67)]
      show Steps p.tables e below (T193.setTop (mkF m 142 #[.val (.long q0), .second, .val (.int p1), .val (.long q2), .second, .val (.long q3), .second, .val (.long q4), .second, .val (.long q5), .second, .val (.int (2 : Int32)), .val (.int v58), .val (.int v60), .val (.long v61), .second, .val (.int v62), .val (.long v63), .second, .val (.int v64), .val (.long v65), .second, .val (.long v66), .second, .val (.long v67), .second, .unset, .unset, .unset, .unset, .unset, .unset, .unset, .unset, .unset, .unset, .unset, .unset, .unset] [(.long ((q0 &&& (4294967295 : Int64)) % (((4294967296 : Int64) - v66) - v67)))])) _
      rw [← hv68]
      show Steps p.tables e below (T193.setTop (mkF m 142 #[.val (.long q0), .second, .val (.int p1), .val (.long q2), .second, .val (.long q3), .second, .val (.long q4), .second, .val (.long q5), .second, .val (.int (2 : Int32)), .val (.int v58), .val (.int v60), .val (.long v61), .second, .val (.int v62), .val (.long v63), .second, .val (.int v64), .val (.long v65), .second, .val (.long v66), .second, .val (.long v67), .second, .unset, .unset, .unset, .unset, .unset, .unset, .unset, .unset, .unset, .unset, .unset, .unset, .unset] [(.long v68)])) _
      refine XS.lstore X193.here hx rfl (hb hby at_142) rfl (l' := #[.val (.long q0), .second, .val (.int p1), .val (.long q2), .second, .val (.long q3), .second, .val (.long q4), .second, .val (.long q5), .second, .val (.int (2 : Int32)), .val (.int v58), .val (.int v60), .val (.long v61), .second, .val (.int v62), .val (.long v63), .second, .val (.int v64), .val (.long v65), .second, .val (.long v66), .second, .val (.long v67), .second, .val (.long v68), .second, .unset, .unset, .unset, .unset, .unset, .unset, .unset, .unset, .unset, .unset, .unset]) rfl ?_
      show Steps p.tables e below (T193.setTop (mkF m 144 #[.val (.long q0), .second, .val (.int p1), .val (.long q2), .second, .val (.long q3), .second, .val (.long q4), .second, .val (.long q5), .second, .val (.int (2 : Int32)), .val (.int v58), .val (.int v60), .val (.long v61), .second, .val (.int v62), .val (.long v63), .second, .val (.int v64), .val (.long v65), .second, .val (.long v66), .second, .val (.long v67), .second, .val (.long v68), .second, .unset, .unset, .unset, .unset, .unset, .unset, .unset, .unset, .unset, .unset, .unset] [])) _
      refine XS.lload X193.here hx rfl (hb hby at_144) rfl ?_
      refine XS.lload X193.here hx rfl (hb hby at_146) rfl ?_
      refine XS.ladd X193.here hx rfl (hb hby at_148) rfl ?_
      show Steps p.tables e below (T193.setTop (mkF m 149 #[.val (.long q0), .second, .val (.int p1), .val (.long q2), .second, .val (.long q3), .second, .val (.long q4), .second, .val (.long q5), .second, .val (.int (2 : Int32)), .val (.int v58), .val (.int v60), .val (.long v61), .second, .val (.int v62), .val (.long v63), .second, .val (.int v64), .val (.long v65), .second, .val (.long v66), .second, .val (.long v67), .second, .val (.long v68), .second, .unset, .unset, .unset, .unset, .unset, .unset, .unset, .unset, .unset, .unset, .unset] [(.long (v68 + v66))])) _
      rw [← hv69]
      show Steps p.tables e below (T193.setTop (mkF m 149 #[.val (.long q0), .second, .val (.int p1), .val (.long q2), .second, .val (.long q3), .second, .val (.long q4), .second, .val (.long q5), .second, .val (.int (2 : Int32)), .val (.int v58), .val (.int v60), .val (.long v61), .second, .val (.int v62), .val (.long v63), .second, .val (.int v64), .val (.long v65), .second, .val (.long v66), .second, .val (.long v67), .second, .val (.long v68), .second, .unset, .unset, .unset, .unset, .unset, .unset, .unset, .unset, .unset, .unset, .unset] [(.long v69)])) _
      refine XS.lstore X193.here hx rfl (hb hby at_149) rfl (l' := #[.val (.long q0), .second, .val (.int p1), .val (.long q2), .second, .val (.long q3), .second, .val (.long q4), .second, .val (.long q5), .second, .val (.int (2 : Int32)), .val (.int v58), .val (.int v60), .val (.long v61), .second, .val (.int v62), .val (.long v63), .second, .val (.int v64), .val (.long v65), .second, .val (.long v66), .second, .val (.long v67), .second, .val (.long v68), .second, .val (.long v69), .second, .unset, .unset, .unset, .unset, .unset, .unset, .unset, .unset, .unset]) rfl ?_
      show Steps p.tables e below (T193.setTop (mkF m 151 #[.val (.long q0), .second, .val (.int p1), .val (.long q2), .second, .val (.long q3), .second, .val (.long q4), .second, .val (.long q5), .second, .val (.int (2 : Int32)), .val (.int v58), .val (.int v60), .val (.long v61), .second, .val (.int v62), .val (.long v63), .second, .val (.int v64), .val (.long v65), .second, .val (.long v66), .second, .val (.long v67), .second, .val (.long v68), .second, .val (.long v69), .second, .unset, .unset, .unset, .unset, .unset, .unset, .unset, .unset, .unset] [])) _
      refine XS.lload X193.here hx rfl (hb hby at_151) rfl ?_
      refine XS.lload X193.here hx rfl (hb hby at_153) rfl ?_
      refine XS.ladd X193.here hx rfl (hb hby at_155) rfl ?_
      show Steps p.tables e below (T193.setTop (mkF m 156 #[.val (.long q0), .second, .val (.int p1), .val (.long q2), .second, .val (.long q3), .second, .val (.long q4), .second, .val (.long q5), .second, .val (.int (2 : Int32)), .val (.int v58), .val (.int v60), .val (.long v61), .second, .val (.int v62), .val (.long v63), .second, .val (.int v64), .val (.long v65), .second, .val (.long v66), .second, .val (.long v67), .second, .val (.long v68), .second, .val (.long v69), .second, .unset, .unset, .unset, .unset, .unset, .unset, .unset, .unset, .unset] [(.long (v69 + v67))])) _
      rw [← hv70]
      show Steps p.tables e below (T193.setTop (mkF m 156 #[.val (.long q0), .second, .val (.int p1), .val (.long q2), .second, .val (.long q3), .second, .val (.long q4), .second, .val (.long q5), .second, .val (.int (2 : Int32)), .val (.int v58), .val (.int v60), .val (.long v61), .second, .val (.int v62), .val (.long v63), .second, .val (.int v64), .val (.long v65), .second, .val (.long v66), .second, .val (.long v67), .second, .val (.long v68), .second, .val (.long v69), .second, .unset, .unset, .unset, .unset, .unset, .unset, .unset, .unset, .unset] [(.long v70)])) _
      refine XS.lstore X193.here hx rfl (hb hby at_156) rfl (l' := #[.val (.long q0), .second, .val (.int p1), .val (.long q2), .second, .val (.long q3), .second, .val (.long q4), .second, .val (.long q5), .second, .val (.int (2 : Int32)), .val (.int v58), .val (.int v60), .val (.long v61), .second, .val (.int v62), .val (.long v63), .second, .val (.int v64), .val (.long v65), .second, .val (.long v66), .second, .val (.long v67), .second, .val (.long v68), .second, .val (.long v69), .second, .val (.long v70), .second, .unset, .unset, .unset, .unset, .unset, .unset, .unset]) rfl ?_
      show Steps p.tables e below (T193.setTop (mkF m 158 #[.val (.long q0), .second, .val (.int p1), .val (.long q2), .second, .val (.long q3), .second, .val (.long q4), .second, .val (.long q5), .second, .val (.int (2 : Int32)), .val (.int v58), .val (.int v60), .val (.long v61), .second, .val (.int v62), .val (.long v63), .second, .val (.int v64), .val (.long v65), .second, .val (.long v66), .second, .val (.long v67), .second, .val (.long v68), .second, .val (.long v69), .second, .val (.long v70), .second, .unset, .unset, .unset, .unset, .unset, .unset, .unset] [])) _
      refine XS.lload X193.here hx rfl (hb hby at_158) rfl ?_
      refine XS.lload X193.here hx rfl (hb hby at_160) rfl ?_
      show Steps p.tables e below (T193.setTop (mkF m 162 #[.val (.long q0), .second, .val (.int p1), .val (.long q2), .second, .val (.long q3), .second, .val (.long q4), .second, .val (.long q5), .second, .val (.int (2 : Int32)), .val (.int v58), .val (.int v60), .val (.long v61), .second, .val (.int v62), .val (.long v63), .second, .val (.int v64), .val (.long v65), .second, .val (.long v66), .second, .val (.long v67), .second, .val (.long v68), .second, .val (.long v69), .second, .val (.long v70), .second, .unset, .unset, .unset, .unset, .unset, .unset, .unset] [(.long q4), (.long v70)])) _
      refine X193.ldc2Long hx hown (mvT hZ (hw _ (List.mem_of_getElem? (i := 1) rfl))) (g := (mkF m 162 #[.val (.long q0), .second, .val (.int p1), .val (.long q2), .second, .val (.long q3), .second, .val (.long q4), .second, .val (.long q5), .second, .val (.int (2 : Int32)), .val (.int v58), .val (.int v60), .val (.long v61), .second, .val (.int v62), .val (.long v63), .second, .val (.int v64), .val (.long v65), .second, .val (.long v66), .second, .val (.long v67), .second, .val (.long v68), .second, .val (.long v69), .second, .val (.long v70), .second, .unset, .unset, .unset, .unset, .unset, .unset, .unset] [(.long q4), (.long v70)])) rfl (hb hby at_162) _ ?_
      show Steps p.tables e below (T193.setTop (mkF m 165 #[.val (.long q0), .second, .val (.int p1), .val (.long q2), .second, .val (.long q3), .second, .val (.long q4), .second, .val (.long q5), .second, .val (.int (2 : Int32)), .val (.int v58), .val (.int v60), .val (.long v61), .second, .val (.int v62), .val (.long v63), .second, .val (.int v64), .val (.long v65), .second, .val (.long v66), .second, .val (.long v67), .second, .val (.long v68), .second, .val (.long v69), .second, .val (.long v70), .second, .unset, .unset, .unset, .unset, .unset, .unset, .unset] [(.long (4294967295 : Int64)), (.long q4), (.long v70)])) _
      refine XS.land X193.here hx rfl (hb hby at_165) rfl ?_
      show Steps p.tables e below (T193.setTop (mkF m 166 #[.val (.long q0), .second, .val (.int p1), .val (.long q2), .second, .val (.long q3), .second, .val (.long q4), .second, .val (.long q5), .second, .val (.int (2 : Int32)), .val (.int v58), .val (.int v60), .val (.long v61), .second, .val (.int v62), .val (.long v63), .second, .val (.int v64), .val (.long v65), .second, .val (.long v66), .second, .val (.long v67), .second, .val (.long v68), .second, .val (.long v69), .second, .val (.long v70), .second, .unset, .unset, .unset, .unset, .unset, .unset, .unset] [(.long (q4 &&& (4294967295 : Int64))), (.long v70)])) _
      rw [← hv71]
      show Steps p.tables e below (T193.setTop (mkF m 166 #[.val (.long q0), .second, .val (.int p1), .val (.long q2), .second, .val (.long q3), .second, .val (.long q4), .second, .val (.long q5), .second, .val (.int (2 : Int32)), .val (.int v58), .val (.int v60), .val (.long v61), .second, .val (.int v62), .val (.long v63), .second, .val (.int v64), .val (.long v65), .second, .val (.long v66), .second, .val (.long v67), .second, .val (.long v68), .second, .val (.long v69), .second, .val (.long v70), .second, .unset, .unset, .unset, .unset, .unset, .unset, .unset] [(.long v71), (.long v70)])) _
      refine st195 _ ?_
      show Steps p.tables e below (T195.setTop (mkF m 169 #[.val (.long q0), .second, .val (.int p1), .val (.long q2), .second, .val (.long q3), .second, .val (.long q4), .second, .val (.long q5), .second, .val (.int (2 : Int32)), .val (.int v58), .val (.int v60), .val (.long v61), .second, .val (.int v62), .val (.long v63), .second, .val (.int v64), .val (.long v65), .second, .val (.long v66), .second, .val (.long v67), .second, .val (.long v68), .second, .val (.long v69), .second, .val (.long v70), .second, .unset, .unset, .unset, .unset, .unset, .unset, .unset] [(.long (own_rmx v70 v71))])) _
      rw [← hv72]
      show Steps p.tables e below (T195.setTop (mkF m 169 #[.val (.long q0), .second, .val (.int p1), .val (.long q2), .second, .val (.long q3), .second, .val (.long q4), .second, .val (.long q5), .second, .val (.int (2 : Int32)), .val (.int v58), .val (.int v60), .val (.long v61), .second, .val (.int v62), .val (.long v63), .second, .val (.int v64), .val (.long v65), .second, .val (.long v66), .second, .val (.long v67), .second, .val (.long v68), .second, .val (.long v69), .second, .val (.long v70), .second, .unset, .unset, .unset, .unset, .unset, .unset, .unset] [(.long v72)])) _
      refine XS.lstore X195.here hx rfl (hb hby at_169) rfl (l' := #[.val (.long q0), .second, .val (.int p1), .val (.long q2), .second, .val (.long q3), .second, .val (.long q4), .second, .val (.long q5), .second, .val (.int (2 : Int32)), .val (.int v58), .val (.int v60), .val (.long v61), .second, .val (.int v62), .val (.long v63), .second, .val (.int v64), .val (.long v65), .second, .val (.long v66), .second, .val (.long v67), .second, .val (.long v68), .second, .val (.long v69), .second, .val (.long v70), .second, .val (.long v72), .second, .unset, .unset, .unset, .unset, .unset]) rfl ?_
      show Steps p.tables e below (T195.setTop (mkF m 171 #[.val (.long q0), .second, .val (.int p1), .val (.long q2), .second, .val (.long q3), .second, .val (.long q4), .second, .val (.long q5), .second, .val (.int (2 : Int32)), .val (.int v58), .val (.int v60), .val (.long v61), .second, .val (.int v62), .val (.long v63), .second, .val (.int v64), .val (.long v65), .second, .val (.long v66), .second, .val (.long v67), .second, .val (.long v68), .second, .val (.long v69), .second, .val (.long v70), .second, .val (.long v72), .second, .unset, .unset, .unset, .unset, .unset] [])) _
      refine XS.iload X195.here hx rfl (hb hby at_171) rfl ?_
      refine XS.ifYes X195.here hx rfl (pc0 := 173) (pc' := 182) rfl (hb hby at_173) rfl ((if0 _ _).trans (feq (by decide : ¬ ((2 : Int32) = (0 : Int32)))).2) (by decide) (by decide) ?_
      show Steps p.tables e below (T195.setTop (mkF m 182 #[.val (.long q0), .second, .val (.int p1), .val (.long q2), .second, .val (.long q3), .second, .val (.long q4), .second, .val (.long q5), .second, .val (.int (2 : Int32)), .val (.int v58), .val (.int v60), .val (.long v61), .second, .val (.int v62), .val (.long v63), .second, .val (.int v64), .val (.long v65), .second, .val (.long v66), .second, .val (.long v67), .second, .val (.long v68), .second, .val (.long v69), .second, .val (.long v70), .second, .val (.long v72), .second, .unset, .unset, .unset, .unset, .unset] [])) _
      refine XS.iload X195.here hx rfl (hb hby at_182) rfl ?_
      refine XS.istore X195.here hx rfl (hb hby at_184) rfl (l' := #[.val (.long q0), .second, .val (.int p1), .val (.long q2), .second, .val (.long q3), .second, .val (.long q4), .second, .val (.long q5), .second, .val (.int (2 : Int32)), .val (.int v58), .val (.int v60), .val (.long v61), .second, .val (.int v62), .val (.long v63), .second, .val (.int v64), .val (.long v65), .second, .val (.long v66), .second, .val (.long v67), .second, .val (.long v68), .second, .val (.long v69), .second, .val (.long v70), .second, .val (.long v72), .second, .val (.int v58), .unset, .unset, .unset, .unset]) rfl ?_
      show Steps p.tables e below (T195.setTop (mkF m 186 #[.val (.long q0), .second, .val (.int p1), .val (.long q2), .second, .val (.long q3), .second, .val (.long q4), .second, .val (.long q5), .second, .val (.int (2 : Int32)), .val (.int v58), .val (.int v60), .val (.long v61), .second, .val (.int v62), .val (.long v63), .second, .val (.int v64), .val (.long v65), .second, .val (.long v66), .second, .val (.long v67), .second, .val (.long v68), .second, .val (.long v69), .second, .val (.long v70), .second, .val (.long v72), .second, .val (.int v58), .unset, .unset, .unset, .unset] [])) _
      refine XS.iconst X195.here hx rfl (hb hby at_186) ?_
      show Steps p.tables e below (T195.setTop (mkF m 187 #[.val (.long q0), .second, .val (.int p1), .val (.long q2), .second, .val (.long q3), .second, .val (.long q4), .second, .val (.long q5), .second, .val (.int (2 : Int32)), .val (.int v58), .val (.int v60), .val (.long v61), .second, .val (.int v62), .val (.long v63), .second, .val (.int v64), .val (.long v65), .second, .val (.long v66), .second, .val (.long v67), .second, .val (.long v68), .second, .val (.long v69), .second, .val (.long v70), .second, .val (.long v72), .second, .val (.int v58), .unset, .unset, .unset, .unset] [(.int (3 : Int32))])) _
      refine st196 _ ?_
      show Steps p.tables e below (T196.setTop (mkF m 189 #[.val (.long q0), .second, .val (.int p1), .val (.long q2), .second, .val (.long q3), .second, .val (.long q4), .second, .val (.long q5), .second, .val (.int (2 : Int32)), .val (.int v58), .val (.int v60), .val (.long v61), .second, .val (.int v62), .val (.long v63), .second, .val (.int v64), .val (.long v65), .second, .val (.long v66), .second, .val (.long v67), .second, .val (.long v68), .second, .val (.long v69), .second, .val (.long v70), .second, .val (.long v72), .second, .val (.int v58), .unset, .unset, .unset, .unset] [(.ref b196)])) _
      refine XS.astore X196.here hx rfl (hb hby at_189) rfl rfl (l' := #[.val (.long q0), .second, .val (.int p1), .val (.long q2), .second, .val (.long q3), .second, .val (.long q4), .second, .val (.long q5), .second, .val (.int (2 : Int32)), .val (.int v58), .val (.int v60), .val (.long v61), .second, .val (.int v62), .val (.long v63), .second, .val (.int v64), .val (.long v65), .second, .val (.long v66), .second, .val (.long v67), .second, .val (.long v68), .second, .val (.long v69), .second, .val (.long v70), .second, .val (.long v72), .second, .val (.int v58), .val (.ref b196), .unset, .unset, .unset]) rfl ?_
      show Steps p.tables e below (T196.setTop (mkF m 191 #[.val (.long q0), .second, .val (.int p1), .val (.long q2), .second, .val (.long q3), .second, .val (.long q4), .second, .val (.long q5), .second, .val (.int (2 : Int32)), .val (.int v58), .val (.int v60), .val (.long v61), .second, .val (.int v62), .val (.long v63), .second, .val (.int v64), .val (.long v65), .second, .val (.long v66), .second, .val (.long v67), .second, .val (.long v68), .second, .val (.long v69), .second, .val (.long v70), .second, .val (.long v72), .second, .val (.int v58), .val (.ref b196), .unset, .unset, .unset] [])) _
      refine XS.iconst X196.here hx rfl (hb hby at_191) ?_
      refine XS.istore X196.here hx rfl (hb hby at_192) rfl (l' := #[.val (.long q0), .second, .val (.int p1), .val (.long q2), .second, .val (.long q3), .second, .val (.long q4), .second, .val (.long q5), .second, .val (.int (2 : Int32)), .val (.int v58), .val (.int v60), .val (.long v61), .second, .val (.int v62), .val (.long v63), .second, .val (.int v64), .val (.long v65), .second, .val (.long v66), .second, .val (.long v67), .second, .val (.long v68), .second, .val (.long v69), .second, .val (.long v70), .second, .val (.long v72), .second, .val (.int v58), .val (.ref b196), .val (.int (0 : Int32)), .unset, .unset]) rfl ?_
      show Steps p.tables e below (T196.setTop (mkF m 194 #[.val (.long q0), .second, .val (.int p1), .val (.long q2), .second, .val (.long q3), .second, .val (.long q4), .second, .val (.long q5), .second, .val (.int (2 : Int32)), .val (.int v58), .val (.int v60), .val (.long v61), .second, .val (.int v62), .val (.long v63), .second, .val (.int v64), .val (.long v65), .second, .val (.long v66), .second, .val (.long v67), .second, .val (.long v68), .second, .val (.long v69), .second, .val (.long v70), .second, .val (.long v72), .second, .val (.int v58), .val (.ref b196), .val (.int (0 : Int32)), .unset, .unset] [])) _
      refine XS.iload X196.here hx rfl (hb hby at_194) rfl ?_
      refine XS.iconst X196.here hx rfl (hb hby at_196) ?_
      refine XS.icmpNo X196.here hx rfl (hb hby at_197) rfl (flt (by decide : ¬ ((2 : Int32) < (1 : Int32)))).1 ?_
      show Steps p.tables e below (T196.setTop (mkF m 200 #[.val (.long q0), .second, .val (.int p1), .val (.long q2), .second, .val (.long q3), .second, .val (.long q4), .second, .val (.long q5), .second, .val (.int (2 : Int32)), .val (.int v58), .val (.int v60), .val (.long v61), .second, .val (.int v62), .val (.long v63), .second, .val (.int v64), .val (.long v65), .second, .val (.long v66), .second, .val (.long v67), .second, .val (.long v68), .second, .val (.long v69), .second, .val (.long v70), .second, .val (.long v72), .second, .val (.int v58), .val (.ref b196), .val (.int (0 : Int32)), .unset, .unset] [])) _
      refine XS.aload X196.here hx rfl (hb hby at_200) rfl rfl ?_
      refine XS.lconst X196.here hx rfl (hb hby at_202) ?_
      refine XS.iload X196.here hx rfl (hb hby at_203) rfl ?_
      show Steps p.tables e below (T196.setTop (mkF m 205 #[.val (.long q0), .second, .val (.int p1), .val (.long q2), .second, .val (.long q3), .second, .val (.long q4), .second, .val (.long q5), .second, .val (.int (2 : Int32)), .val (.int v58), .val (.int v60), .val (.long v61), .second, .val (.int v62), .val (.long v63), .second, .val (.int v64), .val (.long v65), .second, .val (.long v66), .second, .val (.long v67), .second, .val (.long v68), .second, .val (.long v69), .second, .val (.long v70), .second, .val (.long v72), .second, .val (.int v58), .val (.ref b196), .val (.int (0 : Int32)), .unset, .unset] [(.int v62), (.long (1 : Int64)), (.ref b196)])) _
      refine XS.lshl X196.here hx rfl (hb hby at_205) rfl ?_
      show Steps p.tables e below (T196.setTop (mkF m 206 #[.val (.long q0), .second, .val (.int p1), .val (.long q2), .second, .val (.long q3), .second, .val (.long q4), .second, .val (.long q5), .second, .val (.int (2 : Int32)), .val (.int v58), .val (.int v60), .val (.long v61), .second, .val (.int v62), .val (.long v63), .second, .val (.int v64), .val (.long v65), .second, .val (.long v66), .second, .val (.long v67), .second, .val (.long v68), .second, .val (.long v69), .second, .val (.long v70), .second, .val (.long v72), .second, .val (.int v58), .val (.ref b196), .val (.int (0 : Int32)), .unset, .unset] [(.long ((1 : Int64) <<< (v62 &&& 0x3f).toInt64)), (.ref b196)])) _
      refine XS.lconst X196.here hx rfl (hb hby at_206) ?_
      refine XS.lsub X196.here hx rfl (hb hby at_207) rfl ?_
      show Steps p.tables e below (T196.setTop (mkF m 208 #[.val (.long q0), .second, .val (.int p1), .val (.long q2), .second, .val (.long q3), .second, .val (.long q4), .second, .val (.long q5), .second, .val (.int (2 : Int32)), .val (.int v58), .val (.int v60), .val (.long v61), .second, .val (.int v62), .val (.long v63), .second, .val (.int v64), .val (.long v65), .second, .val (.long v66), .second, .val (.long v67), .second, .val (.long v68), .second, .val (.long v69), .second, .val (.long v70), .second, .val (.long v72), .second, .val (.int v58), .val (.ref b196), .val (.int (0 : Int32)), .unset, .unset] [(.long (((1 : Int64) <<< (v62 &&& 0x3f).toInt64) - (1 : Int64))), (.ref b196)])) _
      refine XS.iload X196.here hx rfl (hb hby at_208) rfl ?_
      show Steps p.tables e below (T196.setTop (mkF m 210 #[.val (.long q0), .second, .val (.int p1), .val (.long q2), .second, .val (.long q3), .second, .val (.long q4), .second, .val (.long q5), .second, .val (.int (2 : Int32)), .val (.int v58), .val (.int v60), .val (.long v61), .second, .val (.int v62), .val (.long v63), .second, .val (.int v64), .val (.long v65), .second, .val (.long v66), .second, .val (.long v67), .second, .val (.long v68), .second, .val (.long v69), .second, .val (.long v70), .second, .val (.long v72), .second, .val (.int v58), .val (.ref b196), .val (.int (0 : Int32)), .unset, .unset] [(.int (0 : Int32)), (.long (((1 : Int64) <<< (v62 &&& 0x3f).toInt64) - (1 : Int64))), (.ref b196)])) _
      rw [← hv74]
      show Steps p.tables e below (T196.setTop (mkF m 210 #[.val (.long q0), .second, .val (.int p1), .val (.long q2), .second, .val (.long q3), .second, .val (.long q4), .second, .val (.long q5), .second, .val (.int (2 : Int32)), .val (.int v58), .val (.int v60), .val (.long v61), .second, .val (.int v62), .val (.long v63), .second, .val (.int v64), .val (.long v65), .second, .val (.long v66), .second, .val (.long v67), .second, .val (.long v68), .second, .val (.long v69), .second, .val (.long v70), .second, .val (.long v72), .second, .val (.int v58), .val (.ref b196), .val (.int (0 : Int32)), .unset, .unset] [(.int (0 : Int32)), (.long v74), (.ref b196)])) _
      refine st200 _ ?_
      show Steps p.tables e below (T200.setTop (mkF m 213 #[.val (.long q0), .second, .val (.int p1), .val (.long q2), .second, .val (.long q3), .second, .val (.long q4), .second, .val (.long q5), .second, .val (.int (2 : Int32)), .val (.int v58), .val (.int v60), .val (.long v61), .second, .val (.int v62), .val (.long v63), .second, .val (.int v64), .val (.long v65), .second, .val (.long v66), .second, .val (.long v67), .second, .val (.long v68), .second, .val (.long v69), .second, .val (.long v70), .second, .val (.long v72), .second, .val (.int v58), .val (.ref b196), .val (.int (0 : Int32)), .unset, .unset] [])) _
      refine XS.iload X200.here hx rfl (hb hby at_213) rfl ?_
      refine XS.iload X200.here hx rfl (hb hby at_215) rfl ?_
      refine XS.iadd X200.here hx rfl (hb hby at_217) rfl ?_
      show Steps p.tables e below (T200.setTop (mkF m 218 #[.val (.long q0), .second, .val (.int p1), .val (.long q2), .second, .val (.long q3), .second, .val (.long q4), .second, .val (.long q5), .second, .val (.int (2 : Int32)), .val (.int v58), .val (.int v60), .val (.long v61), .second, .val (.int v62), .val (.long v63), .second, .val (.int v64), .val (.long v65), .second, .val (.long v66), .second, .val (.long v67), .second, .val (.long v68), .second, .val (.long v69), .second, .val (.long v70), .second, .val (.long v72), .second, .val (.int v58), .val (.ref b196), .val (.int (0 : Int32)), .unset, .unset] [(.int ((0 : Int32) + v62))])) _
      refine XS.iconst X200.here hx rfl (hb hby at_218) ?_
      refine XS.iadd X200.here hx rfl (hb hby at_219) rfl ?_
      show Steps p.tables e below (T200.setTop (mkF m 220 #[.val (.long q0), .second, .val (.int p1), .val (.long q2), .second, .val (.long q3), .second, .val (.long q4), .second, .val (.long q5), .second, .val (.int (2 : Int32)), .val (.int v58), .val (.int v60), .val (.long v61), .second, .val (.int v62), .val (.long v63), .second, .val (.int v64), .val (.long v65), .second, .val (.long v66), .second, .val (.long v67), .second, .val (.long v68), .second, .val (.long v69), .second, .val (.long v70), .second, .val (.long v72), .second, .val (.int v58), .val (.ref b196), .val (.int (0 : Int32)), .unset, .unset] [(.int (((0 : Int32) + v62) + (1 : Int32)))])) _
      rw [← hv76]
      show Steps p.tables e below (T200.setTop (mkF m 220 #[.val (.long q0), .second, .val (.int p1), .val (.long q2), .second, .val (.long q3), .second, .val (.long q4), .second, .val (.long q5), .second, .val (.int (2 : Int32)), .val (.int v58), .val (.int v60), .val (.long v61), .second, .val (.int v62), .val (.long v63), .second, .val (.int v64), .val (.long v65), .second, .val (.long v66), .second, .val (.long v67), .second, .val (.long v68), .second, .val (.long v69), .second, .val (.long v70), .second, .val (.long v72), .second, .val (.int v58), .val (.ref b196), .val (.int (0 : Int32)), .unset, .unset] [(.int v76)])) _
      refine XS.istore X200.here hx rfl (hb hby at_220) rfl (l' := #[.val (.long q0), .second, .val (.int p1), .val (.long q2), .second, .val (.long q3), .second, .val (.long q4), .second, .val (.long q5), .second, .val (.int (2 : Int32)), .val (.int v58), .val (.int v60), .val (.long v61), .second, .val (.int v62), .val (.long v63), .second, .val (.int v64), .val (.long v65), .second, .val (.long v66), .second, .val (.long v67), .second, .val (.long v68), .second, .val (.long v69), .second, .val (.long v70), .second, .val (.long v72), .second, .val (.int v58), .val (.ref b196), .val (.int v76), .unset, .unset]) rfl ?_
      show Steps p.tables e below (T200.setTop (mkF m 222 #[.val (.long q0), .second, .val (.int p1), .val (.long q2), .second, .val (.long q3), .second, .val (.long q4), .second, .val (.long q5), .second, .val (.int (2 : Int32)), .val (.int v58), .val (.int v60), .val (.long v61), .second, .val (.int v62), .val (.long v63), .second, .val (.int v64), .val (.long v65), .second, .val (.long v66), .second, .val (.long v67), .second, .val (.long v68), .second, .val (.long v69), .second, .val (.long v70), .second, .val (.long v72), .second, .val (.int v58), .val (.ref b196), .val (.int v76), .unset, .unset] [])) _
      refine XS.aload X200.here hx rfl (hb hby at_222) rfl rfl ?_
      refine XS.lload X200.here hx rfl (hb hby at_224) rfl ?_
      refine XS.iload X200.here hx rfl (hb hby at_226) rfl ?_
      show Steps p.tables e below (T200.setTop (mkF m 228 #[.val (.long q0), .second, .val (.int p1), .val (.long q2), .second, .val (.long q3), .second, .val (.long q4), .second, .val (.long q5), .second, .val (.int (2 : Int32)), .val (.int v58), .val (.int v60), .val (.long v61), .second, .val (.int v62), .val (.long v63), .second, .val (.int v64), .val (.long v65), .second, .val (.long v66), .second, .val (.long v67), .second, .val (.long v68), .second, .val (.long v69), .second, .val (.long v70), .second, .val (.long v72), .second, .val (.int v58), .val (.ref b196), .val (.int v76), .unset, .unset] [(.int v76), (.long v63), (.ref b196)])) _
      refine st203 _ ?_
      show Steps p.tables e below (T203.setTop (mkF m 231 #[.val (.long q0), .second, .val (.int p1), .val (.long q2), .second, .val (.long q3), .second, .val (.long q4), .second, .val (.long q5), .second, .val (.int (2 : Int32)), .val (.int v58), .val (.int v60), .val (.long v61), .second, .val (.int v62), .val (.long v63), .second, .val (.int v64), .val (.long v65), .second, .val (.long v66), .second, .val (.long v67), .second, .val (.long v68), .second, .val (.long v69), .second, .val (.long v70), .second, .val (.long v72), .second, .val (.int v58), .val (.ref b196), .val (.int v76), .unset, .unset] [])) _
      refine XS.iload X203.here hx rfl (hb hby at_231) rfl ?_
      refine XS.iload X203.here hx rfl (hb hby at_233) rfl ?_
      refine XS.iadd X203.here hx rfl (hb hby at_235) rfl ?_
      show Steps p.tables e below (T203.setTop (mkF m 236 #[.val (.long q0), .second, .val (.int p1), .val (.long q2), .second, .val (.long q3), .second, .val (.long q4), .second, .val (.long q5), .second, .val (.int (2 : Int32)), .val (.int v58), .val (.int v60), .val (.long v61), .second, .val (.int v62), .val (.long v63), .second, .val (.int v64), .val (.long v65), .second, .val (.long v66), .second, .val (.long v67), .second, .val (.long v68), .second, .val (.long v69), .second, .val (.long v70), .second, .val (.long v72), .second, .val (.int v58), .val (.ref b196), .val (.int v76), .unset, .unset] [(.int (v76 + v58))])) _
      rw [← hv78]
      show Steps p.tables e below (T203.setTop (mkF m 236 #[.val (.long q0), .second, .val (.int p1), .val (.long q2), .second, .val (.long q3), .second, .val (.long q4), .second, .val (.long q5), .second, .val (.int (2 : Int32)), .val (.int v58), .val (.int v60), .val (.long v61), .second, .val (.int v62), .val (.long v63), .second, .val (.int v64), .val (.long v65), .second, .val (.long v66), .second, .val (.long v67), .second, .val (.long v68), .second, .val (.long v69), .second, .val (.long v70), .second, .val (.long v72), .second, .val (.int v58), .val (.ref b196), .val (.int v76), .unset, .unset] [(.int v78)])) _
      refine XS.istore X203.here hx rfl (hb hby at_236) rfl (l' := #[.val (.long q0), .second, .val (.int p1), .val (.long q2), .second, .val (.long q3), .second, .val (.long q4), .second, .val (.long q5), .second, .val (.int (2 : Int32)), .val (.int v58), .val (.int v60), .val (.long v61), .second, .val (.int v62), .val (.long v63), .second, .val (.int v64), .val (.long v65), .second, .val (.long v66), .second, .val (.long v67), .second, .val (.long v68), .second, .val (.long v69), .second, .val (.long v70), .second, .val (.long v72), .second, .val (.int v58), .val (.ref b196), .val (.int v78), .unset, .unset]) rfl ?_
      show Steps p.tables e below (T203.setTop (mkF m 238 #[.val (.long q0), .second, .val (.int p1), .val (.long q2), .second, .val (.long q3), .second, .val (.long q4), .second, .val (.long q5), .second, .val (.int (2 : Int32)), .val (.int v58), .val (.int v60), .val (.long v61), .second, .val (.int v62), .val (.long v63), .second, .val (.int v64), .val (.long v65), .second, .val (.long v66), .second, .val (.long v67), .second, .val (.long v68), .second, .val (.long v69), .second, .val (.long v70), .second, .val (.long v72), .second, .val (.int v58), .val (.ref b196), .val (.int v78), .unset, .unset] [])) _
      refine XS.iload X203.here hx rfl (hb hby at_238) rfl ?_
      refine XS.iconst X203.here hx rfl (hb hby at_240) ?_
      refine XS.icmpNo X203.here hx rfl (hb hby at_241) rfl (teq (by decide : (2 : Int32) = (2 : Int32))).2 ?_
      show Steps p.tables e below (T203.setTop (mkF m 244 #[.val (.long q0), .second, .val (.int p1), .val (.long q2), .second, .val (.long q3), .second, .val (.long q4), .second, .val (.long q5), .second, .val (.int (2 : Int32)), .val (.int v58), .val (.int v60), .val (.long v61), .second, .val (.int v62), .val (.long v63), .second, .val (.int v64), .val (.long v65), .second, .val (.long v66), .second, .val (.long v67), .second, .val (.long v68), .second, .val (.long v69), .second, .val (.long v70), .second, .val (.long v72), .second, .val (.int v58), .val (.ref b196), .val (.int v78), .unset, .unset] [])) _
      refine XS.aload X203.here hx rfl (hb hby at_244) rfl rfl ?_
      refine XS.lconst X203.here hx rfl (hb hby at_246) ?_
      refine XS.iload X203.here hx rfl (hb hby at_247) rfl ?_
      show Steps p.tables e below (T203.setTop (mkF m 249 #[.val (.long q0), .second, .val (.int p1), .val (.long q2), .second, .val (.long q3), .second, .val (.long q4), .second, .val (.long q5), .second, .val (.int (2 : Int32)), .val (.int v58), .val (.int v60), .val (.long v61), .second, .val (.int v62), .val (.long v63), .second, .val (.int v64), .val (.long v65), .second, .val (.long v66), .second, .val (.long v67), .second, .val (.long v68), .second, .val (.long v69), .second, .val (.long v70), .second, .val (.long v72), .second, .val (.int v58), .val (.ref b196), .val (.int v78), .unset, .unset] [(.int v64), (.long (1 : Int64)), (.ref b196)])) _
      refine XS.lshl X203.here hx rfl (hb hby at_249) rfl ?_
      show Steps p.tables e below (T203.setTop (mkF m 250 #[.val (.long q0), .second, .val (.int p1), .val (.long q2), .second, .val (.long q3), .second, .val (.long q4), .second, .val (.long q5), .second, .val (.int (2 : Int32)), .val (.int v58), .val (.int v60), .val (.long v61), .second, .val (.int v62), .val (.long v63), .second, .val (.int v64), .val (.long v65), .second, .val (.long v66), .second, .val (.long v67), .second, .val (.long v68), .second, .val (.long v69), .second, .val (.long v70), .second, .val (.long v72), .second, .val (.int v58), .val (.ref b196), .val (.int v78), .unset, .unset] [(.long ((1 : Int64) <<< (v64 &&& 0x3f).toInt64)), (.ref b196)])) _
      refine XS.lconst X203.here hx rfl (hb hby at_250) ?_
      refine XS.lsub X203.here hx rfl (hb hby at_251) rfl ?_
      show Steps p.tables e below (T203.setTop (mkF m 252 #[.val (.long q0), .second, .val (.int p1), .val (.long q2), .second, .val (.long q3), .second, .val (.long q4), .second, .val (.long q5), .second, .val (.int (2 : Int32)), .val (.int v58), .val (.int v60), .val (.long v61), .second, .val (.int v62), .val (.long v63), .second, .val (.int v64), .val (.long v65), .second, .val (.long v66), .second, .val (.long v67), .second, .val (.long v68), .second, .val (.long v69), .second, .val (.long v70), .second, .val (.long v72), .second, .val (.int v58), .val (.ref b196), .val (.int v78), .unset, .unset] [(.long (((1 : Int64) <<< (v64 &&& 0x3f).toInt64) - (1 : Int64))), (.ref b196)])) _
      refine XS.iload X203.here hx rfl (hb hby at_252) rfl ?_
      show Steps p.tables e below (T203.setTop (mkF m 254 #[.val (.long q0), .second, .val (.int p1), .val (.long q2), .second, .val (.long q3), .second, .val (.long q4), .second, .val (.long q5), .second, .val (.int (2 : Int32)), .val (.int v58), .val (.int v60), .val (.long v61), .second, .val (.int v62), .val (.long v63), .second, .val (.int v64), .val (.long v65), .second, .val (.long v66), .second, .val (.long v67), .second, .val (.long v68), .second, .val (.long v69), .second, .val (.long v70), .second, .val (.long v72), .second, .val (.int v58), .val (.ref b196), .val (.int v78), .unset, .unset] [(.int v78), (.long (((1 : Int64) <<< (v64 &&& 0x3f).toInt64) - (1 : Int64))), (.ref b196)])) _
      rw [← hv79]
      show Steps p.tables e below (T203.setTop (mkF m 254 #[.val (.long q0), .second, .val (.int p1), .val (.long q2), .second, .val (.long q3), .second, .val (.long q4), .second, .val (.long q5), .second, .val (.int (2 : Int32)), .val (.int v58), .val (.int v60), .val (.long v61), .second, .val (.int v62), .val (.long v63), .second, .val (.int v64), .val (.long v65), .second, .val (.long v66), .second, .val (.long v67), .second, .val (.long v68), .second, .val (.long v69), .second, .val (.long v70), .second, .val (.long v72), .second, .val (.int v58), .val (.ref b196), .val (.int v78), .unset, .unset] [(.int v78), (.long v79), (.ref b196)])) _
      refine st206 _ ?_
      show Steps p.tables e below (T206.setTop (mkF m 257 #[.val (.long q0), .second, .val (.int p1), .val (.long q2), .second, .val (.long q3), .second, .val (.long q4), .second, .val (.long q5), .second, .val (.int (2 : Int32)), .val (.int v58), .val (.int v60), .val (.long v61), .second, .val (.int v62), .val (.long v63), .second, .val (.int v64), .val (.long v65), .second, .val (.long v66), .second, .val (.long v67), .second, .val (.long v68), .second, .val (.long v69), .second, .val (.long v70), .second, .val (.long v72), .second, .val (.int v58), .val (.ref b196), .val (.int v78), .unset, .unset] [])) _
      refine XS.iload X206.here hx rfl (hb hby at_257) rfl ?_
      refine XS.iload X206.here hx rfl (hb hby at_259) rfl ?_
      refine XS.iadd X206.here hx rfl (hb hby at_261) rfl ?_
      show Steps p.tables e below (T206.setTop (mkF m 262 #[.val (.long q0), .second, .val (.int p1), .val (.long q2), .second, .val (.long q3), .second, .val (.long q4), .second, .val (.long q5), .second, .val (.int (2 : Int32)), .val (.int v58), .val (.int v60), .val (.long v61), .second, .val (.int v62), .val (.long v63), .second, .val (.int v64), .val (.long v65), .second, .val (.long v66), .second, .val (.long v67), .second, .val (.long v68), .second, .val (.long v69), .second, .val (.long v70), .second, .val (.long v72), .second, .val (.int v58), .val (.ref b196), .val (.int v78), .unset, .unset] [(.int (v78 + v64))])) _
      refine XS.iconst X206.here hx rfl (hb hby at_262) ?_
      refine XS.iadd X206.here hx rfl (hb hby at_263) rfl ?_
      show Steps p.tables e below (T206.setTop (mkF m 264 #[.val (.long q0), .second, .val (.int p1), .val (.long q2), .second, .val (.long q3), .second, .val (.long q4), .second, .val (.long q5), .second, .val (.int (2 : Int32)), .val (.int v58), .val (.int v60), .val (.long v61), .second, .val (.int v62), .val (.long v63), .second, .val (.int v64), .val (.long v65), .second, .val (.long v66), .second, .val (.long v67), .second, .val (.long v68), .second, .val (.long v69), .second, .val (.long v70), .second, .val (.long v72), .second, .val (.int v58), .val (.ref b196), .val (.int v78), .unset, .unset] [(.int ((v78 + v64) + (1 : Int32)))])) _
      rw [← hv81]
      show Steps p.tables e below (T206.setTop (mkF m 264 #[.val (.long q0), .second, .val (.int p1), .val (.long q2), .second, .val (.long q3), .second, .val (.long q4), .second, .val (.long q5), .second, .val (.int (2 : Int32)), .val (.int v58), .val (.int v60), .val (.long v61), .second, .val (.int v62), .val (.long v63), .second, .val (.int v64), .val (.long v65), .second, .val (.long v66), .second, .val (.long v67), .second, .val (.long v68), .second, .val (.long v69), .second, .val (.long v70), .second, .val (.long v72), .second, .val (.int v58), .val (.ref b196), .val (.int v78), .unset, .unset] [(.int v81)])) _
      refine XS.istore X206.here hx rfl (hb hby at_264) rfl (l' := #[.val (.long q0), .second, .val (.int p1), .val (.long q2), .second, .val (.long q3), .second, .val (.long q4), .second, .val (.long q5), .second, .val (.int (2 : Int32)), .val (.int v58), .val (.int v60), .val (.long v61), .second, .val (.int v62), .val (.long v63), .second, .val (.int v64), .val (.long v65), .second, .val (.long v66), .second, .val (.long v67), .second, .val (.long v68), .second, .val (.long v69), .second, .val (.long v70), .second, .val (.long v72), .second, .val (.int v58), .val (.ref b196), .val (.int v81), .unset, .unset]) rfl ?_
      show Steps p.tables e below (T206.setTop (mkF m 266 #[.val (.long q0), .second, .val (.int p1), .val (.long q2), .second, .val (.long q3), .second, .val (.long q4), .second, .val (.long q5), .second, .val (.int (2 : Int32)), .val (.int v58), .val (.int v60), .val (.long v61), .second, .val (.int v62), .val (.long v63), .second, .val (.int v64), .val (.long v65), .second, .val (.long v66), .second, .val (.long v67), .second, .val (.long v68), .second, .val (.long v69), .second, .val (.long v70), .second, .val (.long v72), .second, .val (.int v58), .val (.ref b196), .val (.int v81), .unset, .unset] [])) _
      refine XS.aload X206.here hx rfl (hb hby at_266) rfl rfl ?_
      refine XS.lload X206.here hx rfl (hb hby at_268) rfl ?_
      refine XS.iload X206.here hx rfl (hb hby at_270) rfl ?_
      show Steps p.tables e below (T206.setTop (mkF m 272 #[.val (.long q0), .second, .val (.int p1), .val (.long q2), .second, .val (.long q3), .second, .val (.long q4), .second, .val (.long q5), .second, .val (.int (2 : Int32)), .val (.int v58), .val (.int v60), .val (.long v61), .second, .val (.int v62), .val (.long v63), .second, .val (.int v64), .val (.long v65), .second, .val (.long v66), .second, .val (.long v67), .second, .val (.long v68), .second, .val (.long v69), .second, .val (.long v70), .second, .val (.long v72), .second, .val (.int v58), .val (.ref b196), .val (.int v81), .unset, .unset] [(.int v81), (.long v65), (.ref b196)])) _
      refine st209 _ ?_
      show Steps p.tables e below (T209.setTop (mkF m 275 #[.val (.long q0), .second, .val (.int p1), .val (.long q2), .second, .val (.long q3), .second, .val (.long q4), .second, .val (.long q5), .second, .val (.int (2 : Int32)), .val (.int v58), .val (.int v60), .val (.long v61), .second, .val (.int v62), .val (.long v63), .second, .val (.int v64), .val (.long v65), .second, .val (.long v66), .second, .val (.long v67), .second, .val (.long v68), .second, .val (.long v69), .second, .val (.long v70), .second, .val (.long v72), .second, .val (.int v58), .val (.ref b196), .val (.int v81), .unset, .unset] [])) _
      refine XS.iload X209.here hx rfl (hb hby at_275) rfl ?_
      refine XS.iload X209.here hx rfl (hb hby at_277) rfl ?_
      refine XS.iadd X209.here hx rfl (hb hby at_279) rfl ?_
      show Steps p.tables e below (T209.setTop (mkF m 280 #[.val (.long q0), .second, .val (.int p1), .val (.long q2), .second, .val (.long q3), .second, .val (.long q4), .second, .val (.long q5), .second, .val (.int (2 : Int32)), .val (.int v58), .val (.int v60), .val (.long v61), .second, .val (.int v62), .val (.long v63), .second, .val (.int v64), .val (.long v65), .second, .val (.long v66), .second, .val (.long v67), .second, .val (.long v68), .second, .val (.long v69), .second, .val (.long v70), .second, .val (.long v72), .second, .val (.int v58), .val (.ref b196), .val (.int v81), .unset, .unset] [(.int (v81 + v58))])) _
      rw [← hv83]
      show Steps p.tables e below (T209.setTop (mkF m 280 #[.val (.long q0), .second, .val (.int p1), .val (.long q2), .second, .val (.long q3), .second, .val (.long q4), .second, .val (.long q5), .second, .val (.int (2 : Int32)), .val (.int v58), .val (.int v60), .val (.long v61), .second, .val (.int v62), .val (.long v63), .second, .val (.int v64), .val (.long v65), .second, .val (.long v66), .second, .val (.long v67), .second, .val (.long v68), .second, .val (.long v69), .second, .val (.long v70), .second, .val (.long v72), .second, .val (.int v58), .val (.ref b196), .val (.int v81), .unset, .unset] [(.int v83)])) _
      refine XS.istore X209.here hx rfl (hb hby at_280) rfl (l' := #[.val (.long q0), .second, .val (.int p1), .val (.long q2), .second, .val (.long q3), .second, .val (.long q4), .second, .val (.long q5), .second, .val (.int (2 : Int32)), .val (.int v58), .val (.int v60), .val (.long v61), .second, .val (.int v62), .val (.long v63), .second, .val (.int v64), .val (.long v65), .second, .val (.long v66), .second, .val (.long v67), .second, .val (.long v68), .second, .val (.long v69), .second, .val (.long v70), .second, .val (.long v72), .second, .val (.int v58), .val (.ref b196), .val (.int v83), .unset, .unset]) rfl ?_
      show Steps p.tables e below (T209.setTop (mkF m 282 #[.val (.long q0), .second, .val (.int p1), .val (.long q2), .second, .val (.long q3), .second, .val (.long q4), .second, .val (.long q5), .second, .val (.int (2 : Int32)), .val (.int v58), .val (.int v60), .val (.long v61), .second, .val (.int v62), .val (.long v63), .second, .val (.int v64), .val (.long v65), .second, .val (.long v66), .second, .val (.long v67), .second, .val (.long v68), .second, .val (.long v69), .second, .val (.long v70), .second, .val (.long v72), .second, .val (.int v58), .val (.ref b196), .val (.int v83), .unset, .unset] [])) _
      refine XS.aload X209.here hx rfl (hb hby at_282) rfl rfl ?_
      refine XS.lload X209.here hx rfl (hb hby at_284) rfl ?_
      refine XS.iload X209.here hx rfl (hb hby at_286) rfl ?_
      show Steps p.tables e below (T209.setTop (mkF m 288 #[.val (.long q0), .second, .val (.int p1), .val (.long q2), .second, .val (.long q3), .second, .val (.long q4), .second, .val (.long q5), .second, .val (.int (2 : Int32)), .val (.int v58), .val (.int v60), .val (.long v61), .second, .val (.int v62), .val (.long v63), .second, .val (.int v64), .val (.long v65), .second, .val (.long v66), .second, .val (.long v67), .second, .val (.long v68), .second, .val (.long v69), .second, .val (.long v70), .second, .val (.long v72), .second, .val (.int v58), .val (.ref b196), .val (.int v83), .unset, .unset] [(.int v83), (.long q5), (.ref b196)])) _
      refine st212 _ ?_
      show Steps p.tables e below (T212.setTop (mkF m 291 #[.val (.long q0), .second, .val (.int p1), .val (.long q2), .second, .val (.long q3), .second, .val (.long q4), .second, .val (.long q5), .second, .val (.int (2 : Int32)), .val (.int v58), .val (.int v60), .val (.long v61), .second, .val (.int v62), .val (.long v63), .second, .val (.int v64), .val (.long v65), .second, .val (.long v66), .second, .val (.long v67), .second, .val (.long v68), .second, .val (.long v69), .second, .val (.long v70), .second, .val (.long v72), .second, .val (.int v58), .val (.ref b196), .val (.int v83), .unset, .unset] [])) _
      refine XS.bipush X212.here hx rfl (hb hby at_291) ?_
      show Steps p.tables e below (T212.setTop (mkF m 293 #[.val (.long q0), .second, .val (.int p1), .val (.long q2), .second, .val (.long q3), .second, .val (.long q4), .second, .val (.long q5), .second, .val (.int (2 : Int32)), .val (.int v58), .val (.int v60), .val (.long v61), .second, .val (.int v62), .val (.long v63), .second, .val (.int v64), .val (.long v65), .second, .val (.long v66), .second, .val (.long v67), .second, .val (.long v68), .second, .val (.long v69), .second, .val (.long v70), .second, .val (.long v72), .second, .val (.int v58), .val (.ref b196), .val (.int v83), .unset, .unset] [(.int (24 : Int32))])) _
      refine st215 _ ?_
      show Steps p.tables e below (T215.setTop (mkF m 295 #[.val (.long q0), .second, .val (.int p1), .val (.long q2), .second, .val (.long q3), .second, .val (.long q4), .second, .val (.long q5), .second, .val (.int (2 : Int32)), .val (.int v58), .val (.int v60), .val (.long v61), .second, .val (.int v62), .val (.long v63), .second, .val (.int v64), .val (.long v65), .second, .val (.long v66), .second, .val (.long v67), .second, .val (.long v68), .second, .val (.long v69), .second, .val (.long v70), .second, .val (.long v72), .second, .val (.int v58), .val (.ref b196), .val (.int v83), .unset, .unset] [(.ref b215)])) _
      refine XS.astore X215.here hx rfl (hb hby at_295) rfl rfl (l' := #[.val (.long q0), .second, .val (.int p1), .val (.long q2), .second, .val (.long q3), .second, .val (.long q4), .second, .val (.long q5), .second, .val (.int (2 : Int32)), .val (.int v58), .val (.int v60), .val (.long v61), .second, .val (.int v62), .val (.long v63), .second, .val (.int v64), .val (.long v65), .second, .val (.long v66), .second, .val (.long v67), .second, .val (.long v68), .second, .val (.long v69), .second, .val (.long v70), .second, .val (.long v72), .second, .val (.int v58), .val (.ref b196), .val (.int v83), .val (.ref b215), .unset]) rfl ?_
      show Steps p.tables e below (T215.setTop (mkF m 297 #[.val (.long q0), .second, .val (.int p1), .val (.long q2), .second, .val (.long q3), .second, .val (.long q4), .second, .val (.long q5), .second, .val (.int (2 : Int32)), .val (.int v58), .val (.int v60), .val (.long v61), .second, .val (.int v62), .val (.long v63), .second, .val (.int v64), .val (.long v65), .second, .val (.long v66), .second, .val (.long v67), .second, .val (.long v68), .second, .val (.long v69), .second, .val (.long v70), .second, .val (.long v72), .second, .val (.int v58), .val (.ref b196), .val (.int v83), .val (.ref b215), .unset] [])) _
      refine XS.aload X215.here hx rfl (hb hby at_297) rfl rfl ?_
      refine XS.iconst X215.here hx rfl (hb hby at_299) ?_
      refine XS.aload X215.here hx rfl (hb hby at_300) rfl rfl ?_
      show Steps p.tables e below (T215.setTop (mkF m 302 #[.val (.long q0), .second, .val (.int p1), .val (.long q2), .second, .val (.long q3), .second, .val (.long q4), .second, .val (.long q5), .second, .val (.int (2 : Int32)), .val (.int v58), .val (.int v60), .val (.long v61), .second, .val (.int v62), .val (.long v63), .second, .val (.int v64), .val (.long v65), .second, .val (.long v66), .second, .val (.long v67), .second, .val (.long v68), .second, .val (.long v69), .second, .val (.long v70), .second, .val (.long v72), .second, .val (.int v58), .val (.ref b196), .val (.int v83), .val (.ref b215), .unset] [(.ref b196), (.int (0 : Int32)), (.ref b215)])) _
      refine XS.iconst X215.here hx rfl (hb hby at_302) ?_
      show Steps p.tables e below (T215.setTop (mkF m 303 #[.val (.long q0), .second, .val (.int p1), .val (.long q2), .second, .val (.long q3), .second, .val (.long q4), .second, .val (.long q5), .second, .val (.int (2 : Int32)), .val (.int v58), .val (.int v60), .val (.long v61), .second, .val (.int v62), .val (.long v63), .second, .val (.int v64), .val (.long v65), .second, .val (.long v66), .second, .val (.long v67), .second, .val (.long v68), .second, .val (.long v69), .second, .val (.long v70), .second, .val (.long v72), .second, .val (.int v58), .val (.ref b196), .val (.int v83), .val (.ref b215), .unset] [(.int (0 : Int32)), (.ref b196), (.int (0 : Int32)), (.ref b215)])) _
      refine own_ldJ X215 hx hZ e215 F216 (j := (0 : Int32)) hin303_220 (g := (mkF m 303 #[.val (.long q0), .second, .val (.int p1), .val (.long q2), .second, .val (.long q3), .second, .val (.long q4), .second, .val (.long q5), .second, .val (.int (2 : Int32)), .val (.int v58), .val (.int v60), .val (.long v61), .second, .val (.int v62), .val (.long v63), .second, .val (.int v64), .val (.long v65), .second, .val (.long v66), .second, .val (.long v67), .second, .val (.long v68), .second, .val (.long v69), .second, .val (.long v70), .second, .val (.long v72), .second, .val (.int v58), .val (.ref b196), .val (.int v83), .val (.ref b215), .unset] [(.int (0 : Int32)), (.ref b196), (.int (0 : Int32)), (.ref b215)])) rfl rfl (hb hby at_303) _ ?_
      show Steps p.tables e below (T215.setTop (mkF m 304 #[.val (.long q0), .second, .val (.int p1), .val (.long q2), .second, .val (.long q3), .second, .val (.long q4), .second, .val (.long q5), .second, .val (.int (2 : Int32)), .val (.int v58), .val (.int v60), .val (.long v61), .second, .val (.int v62), .val (.long v63), .second, .val (.int v64), .val (.long v65), .second, .val (.long v66), .second, .val (.long v67), .second, .val (.long v68), .second, .val (.long v69), .second, .val (.long v70), .second, .val (.long v72), .second, .val (.int v58), .val (.ref b196), .val (.int v83), .val (.ref b215), .unset] [(.long (v84 0)), (.int (0 : Int32)), (.ref b215)])) _
      rw [← hv86]
      show Steps p.tables e below (T215.setTop (mkF m 304 #[.val (.long q0), .second, .val (.int p1), .val (.long q2), .second, .val (.long q3), .second, .val (.long q4), .second, .val (.long q5), .second, .val (.int (2 : Int32)), .val (.int v58), .val (.int v60), .val (.long v61), .second, .val (.int v62), .val (.long v63), .second, .val (.int v64), .val (.long v65), .second, .val (.long v66), .second, .val (.long v67), .second, .val (.long v68), .second, .val (.long v69), .second, .val (.long v70), .second, .val (.long v72), .second, .val (.int v58), .val (.ref b196), .val (.int v83), .val (.ref b215), .unset] [(.long v86), (.int (0 : Int32)), (.ref b215)])) _
      refine st221 _ ?_
      show Steps p.tables e below (T221.setTop (mkF m 307 #[.val (.long q0), .second, .val (.int p1), .val (.long q2), .second, .val (.long q3), .second, .val (.long q4), .second, .val (.long q5), .second, .val (.int (2 : Int32)), .val (.int v58), .val (.int v60), .val (.long v61), .second, .val (.int v62), .val (.long v63), .second, .val (.int v64), .val (.long v65), .second, .val (.long v66), .second, .val (.long v67), .second, .val (.long v68), .second, .val (.long v69), .second, .val (.long v70), .second, .val (.long v72), .second, .val (.int v58), .val (.ref b196), .val (.int v83), .val (.ref b215), .unset] [])) _
      refine XS.aload X221.here hx rfl (hb hby at_307) rfl rfl ?_
      refine XS.bipush X221.here hx rfl (hb hby at_309) ?_
      refine XS.aload X221.here hx rfl (hb hby at_311) rfl rfl ?_
      show Steps p.tables e below (T221.setTop (mkF m 313 #[.val (.long q0), .second, .val (.int p1), .val (.long q2), .second, .val (.long q3), .second, .val (.long q4), .second, .val (.long q5), .second, .val (.int (2 : Int32)), .val (.int v58), .val (.int v60), .val (.long v61), .second, .val (.int v62), .val (.long v63), .second, .val (.int v64), .val (.long v65), .second, .val (.long v66), .second, .val (.long v67), .second, .val (.long v68), .second, .val (.long v69), .second, .val (.long v70), .second, .val (.long v72), .second, .val (.int v58), .val (.ref b196), .val (.int v83), .val (.ref b215), .unset] [(.ref b196), (.int (8 : Int32)), (.ref b215)])) _
      refine XS.iconst X221.here hx rfl (hb hby at_313) ?_
      show Steps p.tables e below (T221.setTop (mkF m 314 #[.val (.long q0), .second, .val (.int p1), .val (.long q2), .second, .val (.long q3), .second, .val (.long q4), .second, .val (.long q5), .second, .val (.int (2 : Int32)), .val (.int v58), .val (.int v60), .val (.long v61), .second, .val (.int v62), .val (.long v63), .second, .val (.int v64), .val (.long v65), .second, .val (.long v66), .second, .val (.long v67), .second, .val (.long v68), .second, .val (.long v69), .second, .val (.long v70), .second, .val (.long v72), .second, .val (.int v58), .val (.ref b196), .val (.int v83), .val (.ref b215), .unset] [(.int (1 : Int32)), (.ref b196), (.int (8 : Int32)), (.ref b215)])) _
      refine own_ldJ X221 hx hZ (rfl : T221.heap = T221.heap) F222 (j := (1 : Int32)) hin314_225 (g := (mkF m 314 #[.val (.long q0), .second, .val (.int p1), .val (.long q2), .second, .val (.long q3), .second, .val (.long q4), .second, .val (.long q5), .second, .val (.int (2 : Int32)), .val (.int v58), .val (.int v60), .val (.long v61), .second, .val (.int v62), .val (.long v63), .second, .val (.int v64), .val (.long v65), .second, .val (.long v66), .second, .val (.long v67), .second, .val (.long v68), .second, .val (.long v69), .second, .val (.long v70), .second, .val (.long v72), .second, .val (.int v58), .val (.ref b196), .val (.int v83), .val (.ref b215), .unset] [(.int (1 : Int32)), (.ref b196), (.int (8 : Int32)), (.ref b215)])) rfl rfl (hb hby at_314) _ ?_
      show Steps p.tables e below (T221.setTop (mkF m 315 #[.val (.long q0), .second, .val (.int p1), .val (.long q2), .second, .val (.long q3), .second, .val (.long q4), .second, .val (.long q5), .second, .val (.int (2 : Int32)), .val (.int v58), .val (.int v60), .val (.long v61), .second, .val (.int v62), .val (.long v63), .second, .val (.int v64), .val (.long v65), .second, .val (.long v66), .second, .val (.long v67), .second, .val (.long v68), .second, .val (.long v69), .second, .val (.long v70), .second, .val (.long v72), .second, .val (.int v58), .val (.ref b196), .val (.int v83), .val (.ref b215), .unset] [(.long (v84 1)), (.int (8 : Int32)), (.ref b215)])) _
      rw [← hv88]
      show Steps p.tables e below (T221.setTop (mkF m 315 #[.val (.long q0), .second, .val (.int p1), .val (.long q2), .second, .val (.long q3), .second, .val (.long q4), .second, .val (.long q5), .second, .val (.int (2 : Int32)), .val (.int v58), .val (.int v60), .val (.long v61), .second, .val (.int v62), .val (.long v63), .second, .val (.int v64), .val (.long v65), .second, .val (.long v66), .second, .val (.long v67), .second, .val (.long v68), .second, .val (.long v69), .second, .val (.long v70), .second, .val (.long v72), .second, .val (.int v58), .val (.ref b196), .val (.int v83), .val (.ref b215), .unset] [(.long v88), (.int (8 : Int32)), (.ref b215)])) _
      refine st226 _ ?_
      show Steps p.tables e below (T226.setTop (mkF m 318 #[.val (.long q0), .second, .val (.int p1), .val (.long q2), .second, .val (.long q3), .second, .val (.long q4), .second, .val (.long q5), .second, .val (.int (2 : Int32)), .val (.int v58), .val (.int v60), .val (.long v61), .second, .val (.int v62), .val (.long v63), .second, .val (.int v64), .val (.long v65), .second, .val (.long v66), .second, .val (.long v67), .second, .val (.long v68), .second, .val (.long v69), .second, .val (.long v70), .second, .val (.long v72), .second, .val (.int v58), .val (.ref b196), .val (.int v83), .val (.ref b215), .unset] [])) _
      refine XS.aload X226.here hx rfl (hb hby at_318) rfl rfl ?_
      refine XS.bipush X226.here hx rfl (hb hby at_320) ?_
      refine XS.aload X226.here hx rfl (hb hby at_322) rfl rfl ?_
      show Steps p.tables e below (T226.setTop (mkF m 324 #[.val (.long q0), .second, .val (.int p1), .val (.long q2), .second, .val (.long q3), .second, .val (.long q4), .second, .val (.long q5), .second, .val (.int (2 : Int32)), .val (.int v58), .val (.int v60), .val (.long v61), .second, .val (.int v62), .val (.long v63), .second, .val (.int v64), .val (.long v65), .second, .val (.long v66), .second, .val (.long v67), .second, .val (.long v68), .second, .val (.long v69), .second, .val (.long v70), .second, .val (.long v72), .second, .val (.int v58), .val (.ref b196), .val (.int v83), .val (.ref b215), .unset] [(.ref b196), (.int (16 : Int32)), (.ref b215)])) _
      refine XS.iconst X226.here hx rfl (hb hby at_324) ?_
      show Steps p.tables e below (T226.setTop (mkF m 325 #[.val (.long q0), .second, .val (.int p1), .val (.long q2), .second, .val (.long q3), .second, .val (.long q4), .second, .val (.long q5), .second, .val (.int (2 : Int32)), .val (.int v58), .val (.int v60), .val (.long v61), .second, .val (.int v62), .val (.long v63), .second, .val (.int v64), .val (.long v65), .second, .val (.long v66), .second, .val (.long v67), .second, .val (.long v68), .second, .val (.long v69), .second, .val (.long v70), .second, .val (.long v72), .second, .val (.int v58), .val (.ref b196), .val (.int v83), .val (.ref b215), .unset] [(.int (2 : Int32)), (.ref b196), (.int (16 : Int32)), (.ref b215)])) _
      refine own_ldJ X226 hx hZ (rfl : T226.heap = T226.heap) F227 (j := (2 : Int32)) hin325_230 (g := (mkF m 325 #[.val (.long q0), .second, .val (.int p1), .val (.long q2), .second, .val (.long q3), .second, .val (.long q4), .second, .val (.long q5), .second, .val (.int (2 : Int32)), .val (.int v58), .val (.int v60), .val (.long v61), .second, .val (.int v62), .val (.long v63), .second, .val (.int v64), .val (.long v65), .second, .val (.long v66), .second, .val (.long v67), .second, .val (.long v68), .second, .val (.long v69), .second, .val (.long v70), .second, .val (.long v72), .second, .val (.int v58), .val (.ref b196), .val (.int v83), .val (.ref b215), .unset] [(.int (2 : Int32)), (.ref b196), (.int (16 : Int32)), (.ref b215)])) rfl rfl (hb hby at_325) _ ?_
      show Steps p.tables e below (T226.setTop (mkF m 326 #[.val (.long q0), .second, .val (.int p1), .val (.long q2), .second, .val (.long q3), .second, .val (.long q4), .second, .val (.long q5), .second, .val (.int (2 : Int32)), .val (.int v58), .val (.int v60), .val (.long v61), .second, .val (.int v62), .val (.long v63), .second, .val (.int v64), .val (.long v65), .second, .val (.long v66), .second, .val (.long v67), .second, .val (.long v68), .second, .val (.long v69), .second, .val (.long v70), .second, .val (.long v72), .second, .val (.int v58), .val (.ref b196), .val (.int v83), .val (.ref b215), .unset] [(.long (v84 2)), (.int (16 : Int32)), (.ref b215)])) _
      rw [← hv90]
      show Steps p.tables e below (T226.setTop (mkF m 326 #[.val (.long q0), .second, .val (.int p1), .val (.long q2), .second, .val (.long q3), .second, .val (.long q4), .second, .val (.long q5), .second, .val (.int (2 : Int32)), .val (.int v58), .val (.int v60), .val (.long v61), .second, .val (.int v62), .val (.long v63), .second, .val (.int v64), .val (.long v65), .second, .val (.long v66), .second, .val (.long v67), .second, .val (.long v68), .second, .val (.long v69), .second, .val (.long v70), .second, .val (.long v72), .second, .val (.int v58), .val (.ref b196), .val (.int v83), .val (.ref b215), .unset] [(.long v90), (.int (16 : Int32)), (.ref b215)])) _
      refine st231 _ ?_
      show Steps p.tables e below (T231.setTop (mkF m 329 #[.val (.long q0), .second, .val (.int p1), .val (.long q2), .second, .val (.long q3), .second, .val (.long q4), .second, .val (.long q5), .second, .val (.int (2 : Int32)), .val (.int v58), .val (.int v60), .val (.long v61), .second, .val (.int v62), .val (.long v63), .second, .val (.int v64), .val (.long v65), .second, .val (.long v66), .second, .val (.long v67), .second, .val (.long v68), .second, .val (.long v69), .second, .val (.long v70), .second, .val (.long v72), .second, .val (.int v58), .val (.ref b196), .val (.int v83), .val (.ref b215), .unset] [])) _
      refine XS.lload X231.here hx rfl (hb hby at_329) rfl ?_
      refine XS.iload X231.here hx rfl (hb hby at_331) rfl ?_
      refine XS.iload X231.here hx rfl (hb hby at_333) rfl ?_
      show Steps p.tables e below (T231.setTop (mkF m 335 #[.val (.long q0), .second, .val (.int p1), .val (.long q2), .second, .val (.long q3), .second, .val (.long q4), .second, .val (.long q5), .second, .val (.int (2 : Int32)), .val (.int v58), .val (.int v60), .val (.long v61), .second, .val (.int v62), .val (.long v63), .second, .val (.int v64), .val (.long v65), .second, .val (.long v66), .second, .val (.long v67), .second, .val (.long v68), .second, .val (.long v69), .second, .val (.long v70), .second, .val (.long v72), .second, .val (.int v58), .val (.ref b196), .val (.int v83), .val (.ref b215), .unset] [(.int (2 : Int32)), (.int v58), (.long v68)])) _
      refine XS.aload X231.here hx rfl (hb hby at_335) rfl rfl ?_
      refine XS.lload X231.here hx rfl (hb hby at_337) rfl ?_
      show Steps p.tables e below (T231.setTop (mkF m 339 #[.val (.long q0), .second, .val (.int p1), .val (.long q2), .second, .val (.long q3), .second, .val (.long q4), .second, .val (.long q5), .second, .val (.int (2 : Int32)), .val (.int v58), .val (.int v60), .val (.long v61), .second, .val (.int v62), .val (.long v63), .second, .val (.int v64), .val (.long v65), .second, .val (.long v66), .second, .val (.long v67), .second, .val (.long v68), .second, .val (.long v69), .second, .val (.long v70), .second, .val (.long v72), .second, .val (.int v58), .val (.ref b196), .val (.int v83), .val (.ref b215), .unset] [(.long v72), (.ref b215), (.int (2 : Int32)), (.int v58), (.long v68)])) _
      refine st235 _ ?_
      show Steps p.tables e below (T235.setTop (mkF m 342 #[.val (.long q0), .second, .val (.int p1), .val (.long q2), .second, .val (.long q3), .second, .val (.long q4), .second, .val (.long q5), .second, .val (.int (2 : Int32)), .val (.int v58), .val (.int v60), .val (.long v61), .second, .val (.int v62), .val (.long v63), .second, .val (.int v64), .val (.long v65), .second, .val (.long v66), .second, .val (.long v67), .second, .val (.long v68), .second, .val (.long v69), .second, .val (.long v70), .second, .val (.long v72), .second, .val (.int v58), .val (.ref b196), .val (.int v83), .val (.ref b215), .unset] [(.ref b235_0)])) _
      refine XS.astore X235.here hx rfl (hb hby at_342) rfl rfl (l' := #[.val (.long q0), .second, .val (.int p1), .val (.long q2), .second, .val (.long q3), .second, .val (.long q4), .second, .val (.long q5), .second, .val (.int (2 : Int32)), .val (.int v58), .val (.int v60), .val (.long v61), .second, .val (.int v62), .val (.long v63), .second, .val (.int v64), .val (.long v65), .second, .val (.long v66), .second, .val (.long v67), .second, .val (.long v68), .second, .val (.long v69), .second, .val (.long v70), .second, .val (.long v72), .second, .val (.int v58), .val (.ref b196), .val (.int v83), .val (.ref b215), .val (.ref b235_0)]) rfl ?_
      show Steps p.tables e below (T235.setTop (mkF m 344 #[.val (.long q0), .second, .val (.int p1), .val (.long q2), .second, .val (.long q3), .second, .val (.long q4), .second, .val (.long q5), .second, .val (.int (2 : Int32)), .val (.int v58), .val (.int v60), .val (.long v61), .second, .val (.int v62), .val (.long v63), .second, .val (.int v64), .val (.long v65), .second, .val (.long v66), .second, .val (.long v67), .second, .val (.long v68), .second, .val (.long v69), .second, .val (.long v70), .second, .val (.long v72), .second, .val (.int v58), .val (.ref b196), .val (.int v83), .val (.ref b215), .val (.ref b235_0)] [])) _
      refine XS.aload X235.here hx rfl (hb hby at_344) rfl rfl ?_
      show Steps p.tables e below (T235.setTop (mkF m 346 #[.val (.long q0), .second, .val (.int p1), .val (.long q2), .second, .val (.long q3), .second, .val (.long q4), .second, .val (.long q5), .second, .val (.int (2 : Int32)), .val (.int v58), .val (.int v60), .val (.long v61), .second, .val (.int v62), .val (.long v63), .second, .val (.int v64), .val (.long v65), .second, .val (.long v66), .second, .val (.long v67), .second, .val (.long v68), .second, .val (.long v69), .second, .val (.long v70), .second, .val (.long v72), .second, .val (.int v58), .val (.ref b196), .val (.int v83), .val (.ref b215), .val (.ref b235_0)] [(.ref b235_0)])) _
      refine own_lenI X235 hx hZ (rfl : T235.heap = T235.heap) F235_1n (g := (mkF m 346 #[.val (.long q0), .second, .val (.int p1), .val (.long q2), .second, .val (.long q3), .second, .val (.long q4), .second, .val (.long q5), .second, .val (.int (2 : Int32)), .val (.int v58), .val (.int v60), .val (.long v61), .second, .val (.int v62), .val (.long v63), .second, .val (.int v64), .val (.long v65), .second, .val (.long v66), .second, .val (.long v67), .second, .val (.long v68), .second, .val (.long v69), .second, .val (.long v70), .second, .val (.long v72), .second, .val (.int v58), .val (.ref b196), .val (.int v83), .val (.ref b215), .val (.ref b235_0)] [(.ref b235_0)])) rfl rfl (hb hby at_346) _ ?_
      show Steps p.tables e below (T235.setTop (mkF m 347 #[.val (.long q0), .second, .val (.int p1), .val (.long q2), .second, .val (.long q3), .second, .val (.long q4), .second, .val (.long q5), .second, .val (.int (2 : Int32)), .val (.int v58), .val (.int v60), .val (.long v61), .second, .val (.int v62), .val (.long v63), .second, .val (.int v64), .val (.long v65), .second, .val (.long v66), .second, .val (.long v67), .second, .val (.long v68), .second, .val (.long v69), .second, .val (.long v70), .second, .val (.long v72), .second, .val (.int v58), .val (.ref b196), .val (.int v83), .val (.ref b215), .val (.ref b235_0)] [(.int (3 : Int32))])) _
      refine XS.iload X235.here hx rfl (hb hby at_347) rfl ?_
      refine XS.iconst X235.here hx rfl (hb hby at_349) ?_
      refine XS.iadd X235.here hx rfl (hb hby at_350) rfl ?_
      show Steps p.tables e below (T235.setTop (mkF m 351 #[.val (.long q0), .second, .val (.int p1), .val (.long q2), .second, .val (.long q3), .second, .val (.long q4), .second, .val (.long q5), .second, .val (.int (2 : Int32)), .val (.int v58), .val (.int v60), .val (.long v61), .second, .val (.int v62), .val (.long v63), .second, .val (.int v64), .val (.long v65), .second, .val (.long v66), .second, .val (.long v67), .second, .val (.long v68), .second, .val (.long v69), .second, .val (.long v70), .second, .val (.long v72), .second, .val (.int v58), .val (.ref b196), .val (.int v83), .val (.ref b215), .val (.ref b235_0)] [(.int (3 : Int32)), (.int (3 : Int32))])) _
      refine XS.icmpYes X235.here hx rfl (pc0 := 351) (pc' := 356) rfl (hb hby at_351) rfl (teq (by decide : (3 : Int32) = (3 : Int32))).1 (by decide) (by decide) ?_
      show Steps p.tables e below (T235.setTop (mkF m 356 #[.val (.long q0), .second, .val (.int p1), .val (.long q2), .second, .val (.long q3), .second, .val (.long q4), .second, .val (.long q5), .second, .val (.int (2 : Int32)), .val (.int v58), .val (.int v60), .val (.long v61), .second, .val (.int v62), .val (.long v63), .second, .val (.int v64), .val (.long v65), .second, .val (.long v66), .second, .val (.long v67), .second, .val (.long v68), .second, .val (.long v69), .second, .val (.long v70), .second, .val (.long v72), .second, .val (.int v58), .val (.ref b196), .val (.int v83), .val (.ref b215), .val (.ref b235_0)] [])) _
      refine XS.aload X235.here hx rfl (hb hby at_356) rfl rfl ?_
      refine XS.iconst X235.here hx rfl (hb hby at_358) ?_
      show Steps p.tables e below (T235.setTop (mkF m 359 #[.val (.long q0), .second, .val (.int p1), .val (.long q2), .second, .val (.long q3), .second, .val (.long q4), .second, .val (.long q5), .second, .val (.int (2 : Int32)), .val (.int v58), .val (.int v60), .val (.long v61), .second, .val (.int v62), .val (.long v63), .second, .val (.int v64), .val (.long v65), .second, .val (.long v66), .second, .val (.long v67), .second, .val (.long v68), .second, .val (.long v69), .second, .val (.long v70), .second, .val (.long v72), .second, .val (.int v58), .val (.ref b196), .val (.int v83), .val (.ref b215), .val (.ref b235_0)] [(.int (0 : Int32)), (.ref b235_0)])) _
      refine own_ldI X235 hx hZ (rfl : T235.heap = T235.heap) F235_1n (j := (0 : Int32)) hin359_240 (g := (mkF m 359 #[.val (.long q0), .second, .val (.int p1), .val (.long q2), .second, .val (.long q3), .second, .val (.long q4), .second, .val (.long q5), .second, .val (.int (2 : Int32)), .val (.int v58), .val (.int v60), .val (.long v61), .second, .val (.int v62), .val (.long v63), .second, .val (.int v64), .val (.long v65), .second, .val (.long v66), .second, .val (.long v67), .second, .val (.long v68), .second, .val (.long v69), .second, .val (.long v70), .second, .val (.long v72), .second, .val (.int v58), .val (.ref b196), .val (.int v83), .val (.ref b215), .val (.ref b235_0)] [(.int (0 : Int32)), (.ref b235_0)])) rfl rfl (hb hby at_359) _ ?_
      show Steps p.tables e below (T235.setTop (mkF m 360 #[.val (.long q0), .second, .val (.int p1), .val (.long q2), .second, .val (.long q3), .second, .val (.long q4), .second, .val (.long q5), .second, .val (.int (2 : Int32)), .val (.int v58), .val (.int v60), .val (.long v61), .second, .val (.int v62), .val (.long v63), .second, .val (.int v64), .val (.long v65), .second, .val (.long v66), .second, .val (.long v67), .second, .val (.long v68), .second, .val (.long v69), .second, .val (.long v70), .second, .val (.long v72), .second, .val (.int v58), .val (.ref b196), .val (.int v83), .val (.ref b215), .val (.ref b235_0)] [(.int (v92 0))])) _
      refine XS.lload X235.here hx rfl (hb hby at_360) rfl ?_
      refine XS.l2i X235.here hx rfl (hb hby at_362) rfl ?_
      show Steps p.tables e below (T235.setTop (mkF m 363 #[.val (.long q0), .second, .val (.int p1), .val (.long q2), .second, .val (.long q3), .second, .val (.long q4), .second, .val (.long q5), .second, .val (.int (2 : Int32)), .val (.int v58), .val (.int v60), .val (.long v61), .second, .val (.int v62), .val (.long v63), .second, .val (.int v64), .val (.long v65), .second, .val (.long v66), .second, .val (.long v67), .second, .val (.long v68), .second, .val (.long v69), .second, .val (.long v70), .second, .val (.long v72), .second, .val (.int v58), .val (.ref b196), .val (.int v83), .val (.ref b215), .val (.ref b235_0)] [(.int (v68.toInt32)), (.int (v92 0))])) _
      refine XS.icmpYes X235.here hx rfl (pc0 := 363) (pc' := 368) rfl (hb hby at_363) rfl (teq (by rw [hv92]; rfl)).1 (by decide) (by decide) ?_
      show Steps p.tables e below (T235.setTop (mkF m 368 #[.val (.long q0), .second, .val (.int p1), .val (.long q2), .second, .val (.long q3), .second, .val (.long q4), .second, .val (.long q5), .second, .val (.int (2 : Int32)), .val (.int v58), .val (.int v60), .val (.long v61), .second, .val (.int v62), .val (.long v63), .second, .val (.int v64), .val (.long v65), .second, .val (.long v66), .second, .val (.long v67), .second, .val (.long v68), .second, .val (.long v69), .second, .val (.long v70), .second, .val (.long v72), .second, .val (.int v58), .val (.ref b196), .val (.int v83), .val (.ref b215), .val (.ref b235_0)] [])) _
      refine XS.iload X235.here hx rfl (hb hby at_368) rfl ?_
      refine XS.iconst X235.here hx rfl (hb hby at_370) ?_
      refine XS.icmpNo X235.here hx rfl (hb hby at_371) rfl (flt (by decide : ¬ ((2 : Int32) < (1 : Int32)))).1 ?_
      show Steps p.tables e below (T235.setTop (mkF m 374 #[.val (.long q0), .second, .val (.int p1), .val (.long q2), .second, .val (.long q3), .second, .val (.long q4), .second, .val (.long q5), .second, .val (.int (2 : Int32)), .val (.int v58), .val (.int v60), .val (.long v61), .second, .val (.int v62), .val (.long v63), .second, .val (.int v64), .val (.long v65), .second, .val (.long v66), .second, .val (.long v67), .second, .val (.long v68), .second, .val (.long v69), .second, .val (.long v70), .second, .val (.long v72), .second, .val (.int v58), .val (.ref b196), .val (.int v83), .val (.ref b215), .val (.ref b235_0)] [])) _
      refine XS.aload X235.here hx rfl (hb hby at_374) rfl rfl ?_
      refine XS.iconst X235.here hx rfl (hb hby at_376) ?_
      show Steps p.tables e below (T235.setTop (mkF m 377 #[.val (.long q0), .second, .val (.int p1), .val (.long q2), .second, .val (.long q3), .second, .val (.long q4), .second, .val (.long q5), .second, .val (.int (2 : Int32)), .val (.int v58), .val (.int v60), .val (.long v61), .second, .val (.int v62), .val (.long v63), .second, .val (.int v64), .val (.long v65), .second, .val (.long v66), .second, .val (.long v67), .second, .val (.long v68), .second, .val (.long v69), .second, .val (.long v70), .second, .val (.long v72), .second, .val (.int v58), .val (.ref b196), .val (.int v83), .val (.ref b215), .val (.ref b235_0)] [(.int (1 : Int32)), (.ref b235_0)])) _
      refine own_ldI X235 hx hZ (rfl : T235.heap = T235.heap) F235_1n (j := (1 : Int32)) hin377_241 (g := (mkF m 377 #[.val (.long q0), .second, .val (.int p1), .val (.long q2), .second, .val (.long q3), .second, .val (.long q4), .second, .val (.long q5), .second, .val (.int (2 : Int32)), .val (.int v58), .val (.int v60), .val (.long v61), .second, .val (.int v62), .val (.long v63), .second, .val (.int v64), .val (.long v65), .second, .val (.long v66), .second, .val (.long v67), .second, .val (.long v68), .second, .val (.long v69), .second, .val (.long v70), .second, .val (.long v72), .second, .val (.int v58), .val (.ref b196), .val (.int v83), .val (.ref b215), .val (.ref b235_0)] [(.int (1 : Int32)), (.ref b235_0)])) rfl rfl (hb hby at_377) _ ?_
      show Steps p.tables e below (T235.setTop (mkF m 378 #[.val (.long q0), .second, .val (.int p1), .val (.long q2), .second, .val (.long q3), .second, .val (.long q4), .second, .val (.long q5), .second, .val (.int (2 : Int32)), .val (.int v58), .val (.int v60), .val (.long v61), .second, .val (.int v62), .val (.long v63), .second, .val (.int v64), .val (.long v65), .second, .val (.long v66), .second, .val (.long v67), .second, .val (.long v68), .second, .val (.long v69), .second, .val (.long v70), .second, .val (.long v72), .second, .val (.int v58), .val (.ref b196), .val (.int v83), .val (.ref b215), .val (.ref b235_0)] [(.int (v92 1))])) _
      refine XS.lload X235.here hx rfl (hb hby at_378) rfl ?_
      refine XS.l2i X235.here hx rfl (hb hby at_380) rfl ?_
      show Steps p.tables e below (T235.setTop (mkF m 381 #[.val (.long q0), .second, .val (.int p1), .val (.long q2), .second, .val (.long q3), .second, .val (.long q4), .second, .val (.long q5), .second, .val (.int (2 : Int32)), .val (.int v58), .val (.int v60), .val (.long v61), .second, .val (.int v62), .val (.long v63), .second, .val (.int v64), .val (.long v65), .second, .val (.long v66), .second, .val (.long v67), .second, .val (.long v68), .second, .val (.long v69), .second, .val (.long v70), .second, .val (.long v72), .second, .val (.int v58), .val (.ref b196), .val (.int v83), .val (.ref b215), .val (.ref b235_0)] [(.int (v69.toInt32)), (.int (v92 1))])) _
      refine XS.icmpYes X235.here hx rfl (pc0 := 381) (pc' := 386) rfl (hb hby at_381) rfl (teq (by rw [hv92]; exact congrArg Int64.toInt32 S1)).1 (by decide) (by decide) ?_
      show Steps p.tables e below (T235.setTop (mkF m 386 #[.val (.long q0), .second, .val (.int p1), .val (.long q2), .second, .val (.long q3), .second, .val (.long q4), .second, .val (.long q5), .second, .val (.int (2 : Int32)), .val (.int v58), .val (.int v60), .val (.long v61), .second, .val (.int v62), .val (.long v63), .second, .val (.int v64), .val (.long v65), .second, .val (.long v66), .second, .val (.long v67), .second, .val (.long v68), .second, .val (.long v69), .second, .val (.long v70), .second, .val (.long v72), .second, .val (.int v58), .val (.ref b196), .val (.int v83), .val (.ref b215), .val (.ref b235_0)] [])) _
      refine XS.iload X235.here hx rfl (hb hby at_386) rfl ?_
      refine XS.iconst X235.here hx rfl (hb hby at_388) ?_
      refine XS.icmpNo X235.here hx rfl (hb hby at_389) rfl (teq (by decide : (2 : Int32) = (2 : Int32))).2 ?_
      show Steps p.tables e below (T235.setTop (mkF m 392 #[.val (.long q0), .second, .val (.int p1), .val (.long q2), .second, .val (.long q3), .second, .val (.long q4), .second, .val (.long q5), .second, .val (.int (2 : Int32)), .val (.int v58), .val (.int v60), .val (.long v61), .second, .val (.int v62), .val (.long v63), .second, .val (.int v64), .val (.long v65), .second, .val (.long v66), .second, .val (.long v67), .second, .val (.long v68), .second, .val (.long v69), .second, .val (.long v70), .second, .val (.long v72), .second, .val (.int v58), .val (.ref b196), .val (.int v83), .val (.ref b215), .val (.ref b235_0)] [])) _
      refine XS.aload X235.here hx rfl (hb hby at_392) rfl rfl ?_
      refine XS.iconst X235.here hx rfl (hb hby at_394) ?_
      show Steps p.tables e below (T235.setTop (mkF m 395 #[.val (.long q0), .second, .val (.int p1), .val (.long q2), .second, .val (.long q3), .second, .val (.long q4), .second, .val (.long q5), .second, .val (.int (2 : Int32)), .val (.int v58), .val (.int v60), .val (.long v61), .second, .val (.int v62), .val (.long v63), .second, .val (.int v64), .val (.long v65), .second, .val (.long v66), .second, .val (.long v67), .second, .val (.long v68), .second, .val (.long v69), .second, .val (.long v70), .second, .val (.long v72), .second, .val (.int v58), .val (.ref b196), .val (.int v83), .val (.ref b215), .val (.ref b235_0)] [(.int (2 : Int32)), (.ref b235_0)])) _
      refine own_ldI X235 hx hZ (rfl : T235.heap = T235.heap) F235_1n (j := (2 : Int32)) hin395_242 (g := (mkF m 395 #[.val (.long q0), .second, .val (.int p1), .val (.long q2), .second, .val (.long q3), .second, .val (.long q4), .second, .val (.long q5), .second, .val (.int (2 : Int32)), .val (.int v58), .val (.int v60), .val (.long v61), .second, .val (.int v62), .val (.long v63), .second, .val (.int v64), .val (.long v65), .second, .val (.long v66), .second, .val (.long v67), .second, .val (.long v68), .second, .val (.long v69), .second, .val (.long v70), .second, .val (.long v72), .second, .val (.int v58), .val (.ref b196), .val (.int v83), .val (.ref b215), .val (.ref b235_0)] [(.int (2 : Int32)), (.ref b235_0)])) rfl rfl (hb hby at_395) _ ?_
      show Steps p.tables e below (T235.setTop (mkF m 396 #[.val (.long q0), .second, .val (.int p1), .val (.long q2), .second, .val (.long q3), .second, .val (.long q4), .second, .val (.long q5), .second, .val (.int (2 : Int32)), .val (.int v58), .val (.int v60), .val (.long v61), .second, .val (.int v62), .val (.long v63), .second, .val (.int v64), .val (.long v65), .second, .val (.long v66), .second, .val (.long v67), .second, .val (.long v68), .second, .val (.long v69), .second, .val (.long v70), .second, .val (.long v72), .second, .val (.int v58), .val (.ref b196), .val (.int v83), .val (.ref b215), .val (.ref b235_0)] [(.int (v92 2))])) _
      refine XS.lload X235.here hx rfl (hb hby at_396) rfl ?_
      refine XS.l2i X235.here hx rfl (hb hby at_398) rfl ?_
      show Steps p.tables e below (T235.setTop (mkF m 399 #[.val (.long q0), .second, .val (.int p1), .val (.long q2), .second, .val (.long q3), .second, .val (.long q4), .second, .val (.long q5), .second, .val (.int (2 : Int32)), .val (.int v58), .val (.int v60), .val (.long v61), .second, .val (.int v62), .val (.long v63), .second, .val (.int v64), .val (.long v65), .second, .val (.long v66), .second, .val (.long v67), .second, .val (.long v68), .second, .val (.long v69), .second, .val (.long v70), .second, .val (.long v72), .second, .val (.int v58), .val (.ref b196), .val (.int v83), .val (.ref b215), .val (.ref b235_0)] [(.int (v70.toInt32)), (.int (v92 2))])) _
      refine XS.icmpYes X235.here hx rfl (pc0 := 399) (pc' := 404) rfl (hb hby at_399) rfl (teq (by rw [hv92]; exact congrArg Int64.toInt32 S2)).1 (by decide) (by decide) ?_
      show Steps p.tables e below (T235.setTop (mkF m 404 #[.val (.long q0), .second, .val (.int p1), .val (.long q2), .second, .val (.long q3), .second, .val (.long q4), .second, .val (.long q5), .second, .val (.int (2 : Int32)), .val (.int v58), .val (.int v60), .val (.long v61), .second, .val (.int v62), .val (.long v63), .second, .val (.int v64), .val (.long v65), .second, .val (.long v66), .second, .val (.long v67), .second, .val (.long v68), .second, .val (.long v69), .second, .val (.long v70), .second, .val (.long v72), .second, .val (.int v58), .val (.ref b196), .val (.int v83), .val (.ref b215), .val (.ref b235_0)] [])) _
      refine XS.iconst X235.here hx rfl (hb hby at_404) ?_
      exact kt
    refine own_go hgo243 ?_
    exact own_retZ X235 hx Bd.returns Bd.notSynchronized (hb hby at_405) (by decide) (by decide) (Or.inr (rfl : (1 : Int32) = 1)) ⟨by rw [(rfl : (1 : Int32) = 1)], N235⟩
set_option maxRecDepth 65536 in
set_option maxHeartbeats 40000000 in
theorem comes_1 {Post : Tables → Env → Array Value → State → Outcome → State → Prop} (hpost : ∀ tb e args s v u, (limb_1_1.after args s (.returned v) u = true ∧ limb_1_2.after args s (.returned v) u = true ∧ True) → FrameEnd s (.returned v) u (Jvm.fieldLocs frame_1_writes args s ++ Jvm.arrayLocs frame_1_arrays args s ++ Jvm.staticLocs frame_1_statics s) 16 192 → Post tb e args s (.returned v) u) :
    ArmFor flags0 classFile x code maxLocals ret World_1 tables_1 room_1 Calls_1 rest_1 Pre_1 Post := by
  intro l hfl _ _ p e ha hc hk s m args below hf hA hF happ hP
  obtain ⟨hcalls, hrest, hpre⟩ := hP
  obtain ⟨-, -, -, hnamed, -, -, -, hat⟩ := (Spec.applies_iff hf).mp happ
  obtain ⟨hg, hn⟩ := and_e (Cond.before_iff.mp (show (Jvm.Cond.and given_1 narrow_1).before args s = true from hpre))
  obtain ⟨gg1, gg2⟩ := and_e hg
  obtain ⟨gg3, gg4⟩ := and_e gg2
  obtain ⟨gg5, gg6⟩ := and_e gg4
  obtain ⟨gg7, gg8⟩ := and_e gg6
  obtain ⟨gg9, gg10⟩ := and_e gg8
  obtain ⟨gg11, gg12⟩ := and_e gg10
  obtain ⟨w0, w1, w2, w3, w4, w5, rfl⟩ : ∃ w0 w1 w2 w3 w4 w5 : Value, args = #[w0, w1, w2, w3, w4, w5] := by
    have hs : args.size = 6 := by simpa [Cond.value, given_1] using gg1
    obtain ⟨L⟩ := args
    match L, hs with
    | [w0, w1, w2, w3, w4, w5], _ => exact ⟨w0, w1, w2, w3, w4, w5, rfl⟩
  have hw := fun d (hd : d ∈ tables_1) => atoms_spec (ws := Jvm.Cond.code x code maxLocals ret :: tables_1) hat d (List.mem_cons_of_mem _ hd)
  have hfit : Fit s := fun {y c} hc i hi => by
    obtain ⟨ha, rfl⟩ := Array.getElem?_eq_some_iff.mp hc
    have q := List.all_eq_true.mp ((Array.all_eq_true_iff_forall_mem.mp hF) _ (Array.getElem_mem ha)) i (List.mem_range.mpr hi)
    simpa [Array.getElem?_eq_getElem hi] using q
  obtain ⟨i0, ei0⟩ := isL_v gg3
  obtain rfl : w0 = (.long i0) := Option.some.inj ei0
  obtain ⟨i1, ei1⟩ := is_v gg5
  obtain rfl : w1 = (.int i1) := Option.some.inj ei1
  obtain ⟨i2, ei2⟩ := isL_v gg7
  obtain rfl : w2 = (.long i2) := Option.some.inj ei2
  obtain ⟨i3, ei3⟩ := isL_v gg9
  obtain rfl : w3 = (.long i3) := Option.some.inj ei3
  obtain ⟨i4, ei4⟩ := isL_v gg11
  obtain rfl : w4 = (.long i4) := Option.some.inj ei4
  obtain ⟨i5, ei5⟩ := isL_v gg12
  obtain rfl : w5 = (.long i5) := Option.some.inj ei5
  obtain ⟨n, o, h1, h2, h3, _, L, rfl, ⟨rfl, N⟩, hq⟩ := rm0 l s _ hw tables_1 i0 i1 i2 i3 i4 i5 s.heap s.heap.size (Nat.le_refl _)  p e ha hc hk s m _ below hf ((Spec.applies_iff_loose hf).mp happ).1 ⟨rfl, State.Warmed39.refl s, rfl⟩ trivial
  refine ⟨n, _, h1, h2, h3, hpost _ _ _ _ _ _ ⟨Cond.after_iff.mpr rfl, Cond.after_iff.mpr (eq_i res_at (Term.int_eval (1)) rfl), trivial⟩ ⟨hq.1, hq.2.1, (hq.2.2.sift fun y hy => Or.inr (N y hy)).mono (by decide) (by decide)⟩⟩
theorem main_1_1 : Claimed_1_1 := comes_1 fun _ _ _ _ _ _ h hF => ⟨h.1, hF⟩
theorem main_1_2 : Claimed_1_2 := comes_1 fun _ _ _ _ _ _ h hF => ⟨h.2.1, hF⟩
end Jvm.Pilot.@@N@@
namespace Jvm.Pilot.@@N@@
open Jvm Jvm.ClassFile Sem Op Lib Jvm.Free Jvm.Stand Jvm.Pilot.@@N@@.Jvm.D
/-! MADE BY PROGRAM (witnessworld.py) out of the Statement's table words and the real class files: 19 classes; the members and pool entries that the words name. The judged class is class 1, her method 1. -/
namespace start1
open Jvm.ClassFile
def u (s : String) : CpInfo := .utf8 (stringToUtf16 s)
/-- a pool by its gaps: so many unusable entries, then the entry; so many at the end -/
def gap : Nat → List CpInfo → List CpInfo
  | 0, r => r
  | n + 1, r => .unusable :: gap n r
def poolList (es : List (Nat × CpInfo)) (last : Nat) : List CpInfo := es.foldr (fun e r => gap e.1 (e.2 :: r)) (gap last [])
def pool (es : List (Nat × CpInfo)) (last : Nat) : Array CpInfo := ⟨poolList es last⟩
def fileOf (pool : Array CpInfo) (this : Nat) (attrs : Array Attribute := #[]) (ms : Array MethodInfo := #[]) (fl : Nat := 33) (sup : Nat := 0) (ifs : Array Nat := #[]) (fds : Array FieldInfo := #[]) : ClassFile where
  minorVersion := 0
  majorVersion := 65
  constantPool := pool
  accessFlags := fl
  thisClass := this
  superClass := sup
  interfaces := ifs
  fields := fds
  methods := ms
  attributes := attrs
def plain (name : String) (sup : Option ClassId) : Class where
  name := name
  kind := .ordinary
  loader := none
  accessFlags := 33
  super := sup
  interfaces := #[]
  cf := none
  fields := #[]
  methods := #[]
  instanceTypes := #[]
  staticTypes := #[]
  resolved := #[]
  callSites := []
  init := .initialized
  statics := none
  mirror := none

def pool0 : Array CpInfo := pool [(5, u "<init>"), (0, u "()V"), (1, .class_ 10), (1, u "java/lang/Object")] 113

def k0c0 : Code := { maxStack := 0, maxLocals := 1, code := object_method_1_code, exceptionTable := #[], attributes := #[] }
def k0m0 : Method := { name := "<init>", desc := "()V", sig := { parameters := [], returnType := none }, accessFlags := 1, code := some k0c0 }
/-- java/lang/Object -/
def k0 : Class := { plain "java/lang/Object" none with
  accessFlags := 33
  interfaces := #[]
  cf := some (fileOf pool0 8 #[] #[{ accessFlags := 1, nameIndex := 5, descriptorIndex := 6, attributes := #[] }] 33 0 #[] #[])
  fields := #[]
  methods := #[k0m0]
  instanceTypes := #[]
  staticTypes := #[]
  resolved := Array.replicate 124 none
  statics := none }

def pool1 : Array CpInfo := pool [(2, .class_ 4), (1, u "java/lang/Object"), (0, u "<init>"), (0, u "()V"), (0, .integer 2147483647), (0, .long 4294967295), (1, .long 4294967296), (1, .methodref 13 14), (0, .class_ 15), (0, .nameAndType 16 17), (0, u "java/lang/Math"), (0, u "max"), (0, u "(JJ)J"), (0, .methodref 19 20), (0, .class_ 21), (0, .nameAndType 22 23), (0, u "com/example/canonic/canonic/RiceCodeDecodePinLaw"), (0, u "put"), (0, u "([JJI)V"), (0, .methodref 19 25), (0, .nameAndType 26 27), (0, u "put8"), (0, u "([BIJ)V"), (0, .methodref 29 30), (0, .class_ 31), (0, .nameAndType 32 33), (0, u "com/example/canonic/canonic/RiceCode"), (0, u "decode"), (0, u "(JII[BJ)[I"), (2, u "law"), (0, u "(JIJJJJ)Z")] 12

def k1m0 : Method := { name := "<init>", desc := "()V", sig := { parameters := [], returnType := none }, accessFlags := 2, code := none }
def k1c1 : Code := { maxStack := 7, maxLocals := 39, code := code, exceptionTable := #[], attributes := #[] }
def k1m1 : Method := { name := "law", desc := "(JIJJJJ)Z", sig := { parameters := [.long, .int, .long, .long, .long, .long], returnType := some .boolean }, accessFlags := 9, code := some k1c1 }
def k1c2 : Code := { maxStack := 8, maxLocals := 6, code := method_3_code, exceptionTable := #[], attributes := #[] }
def k1m2 : Method := { name := "put", desc := "([JJI)V", sig := { parameters := [(.array .long), .long, .int], returnType := none }, accessFlags := 10, code := some k1c2 }
def k1c3 : Code := { maxStack := 5, maxLocals := 4, code := method_4_code, exceptionTable := #[], attributes := #[] }
def k1m3 : Method := { name := "put8", desc := "([BIJ)V", sig := { parameters := [(.array .byte), .int, .long], returnType := none }, accessFlags := 10, code := some k1c3 }
/-- com/example/canonic/canonic/RiceCodeDecodePinLaw -/
def k1 : Class := { plain "com/example/canonic/canonic/RiceCodeDecodePinLaw" (some 0) with
  accessFlags := 49
  interfaces := #[]
  cf := some (fileOf pool1 19 #[] #[{ accessFlags := 2, nameIndex := 5, descriptorIndex := 6, attributes := #[] }, { accessFlags := 9, nameIndex := 36, descriptorIndex := 37, attributes := #[] }, { accessFlags := 10, nameIndex := 22, descriptorIndex := 23, attributes := #[] }, { accessFlags := 10, nameIndex := 26, descriptorIndex := 27, attributes := #[] }] 49 2 #[] #[])
  fields := #[]
  methods := #[k1m0, k1m1, k1m2, k1m3]
  instanceTypes := #[]
  staticTypes := #[]
  resolved := Array.replicate 50 none
  statics := none }

def pool2 : Array CpInfo := pool [(1, .class_ 2), (0, u "java/lang/Math"), (1, .class_ 6), (1, u "java/lang/Object"), (0, u "<init>"), (0, u "()V"), (89, .class_ 100), (1, u "java/lang/Math$RandomNumberGeneratorHolder"), (20, u "(JJ)J"), (50, u "negativeZeroFloatBits"), (0, u "J"), (2, u "negativeZeroDoubleBits"), (21, u "max"), (46, u "$assertionsDisabled"), (0, u "Z"), (91, u "twoToTheDoubleScaleDown"), (0, u "D"), (4, u "twoToTheDoubleScaleUp"), (9, u "E"), (3, u "PI"), (2, u "TAU"), (2, u "DEGREES_TO_RADIANS"), (0, u "RADIANS_TO_DEGREES")] 94

def k2m0 : Method := { name := "<init>", desc := "()V", sig := { parameters := [], returnType := none }, accessFlags := 2, code := none }
def k2c1 : Code := { maxStack := 4, maxLocals := 4, code := jdk_29_method_66_code, exceptionTable := #[], attributes := #[] }
def k2m1 : Method := { name := "max", desc := "(JJ)J", sig := { parameters := [.long, .long], returnType := some .long }, accessFlags := 9, code := some k2c1 }
/-- java/lang/Math -/
def k2 : Class := { plain "java/lang/Math" (some 0) with
  accessFlags := 49
  interfaces := #[]
  cf := some (fileOf pool2 1 #[.nestMembers #[98]] #[{ accessFlags := 2, nameIndex := 7, descriptorIndex := 8, attributes := #[] }, { accessFlags := 9, nameIndex := 198, descriptorIndex := 121, attributes := #[] }] 49 4 #[] #[{ accessFlags := 25, nameIndex := 354, descriptorIndex := 339, attributes := #[] }, { accessFlags := 25, nameIndex := 358, descriptorIndex := 339, attributes := #[] }, { accessFlags := 25, nameIndex := 361, descriptorIndex := 339, attributes := #[] }, { accessFlags := 26, nameIndex := 364, descriptorIndex := 339, attributes := #[] }, { accessFlags := 26, nameIndex := 365, descriptorIndex := 339, attributes := #[] }, { accessFlags := 26, nameIndex := 172, descriptorIndex := 173, attributes := #[] }, { accessFlags := 26, nameIndex := 176, descriptorIndex := 173, attributes := #[] }, { accessFlags := 8, nameIndex := 344, descriptorIndex := 339, attributes := #[] }, { accessFlags := 8, nameIndex := 338, descriptorIndex := 339, attributes := #[] }, { accessFlags := 4120, nameIndex := 245, descriptorIndex := 246, attributes := #[] }])
  fields := #[{ name := "E", type := .double, accessFlags := 25, slot := 0, constantValue := 0 }, { name := "PI", type := .double, accessFlags := 25, slot := 1, constantValue := 0 }, { name := "TAU", type := .double, accessFlags := 25, slot := 2, constantValue := 0 }, { name := "DEGREES_TO_RADIANS", type := .double, accessFlags := 26, slot := 3, constantValue := 0 }, { name := "RADIANS_TO_DEGREES", type := .double, accessFlags := 26, slot := 4, constantValue := 0 }, { name := "negativeZeroFloatBits", type := .long, accessFlags := 26, slot := 5, constantValue := 0 }, { name := "negativeZeroDoubleBits", type := .long, accessFlags := 26, slot := 6, constantValue := 0 }, { name := "twoToTheDoubleScaleUp", type := .double, accessFlags := 8, slot := 7, constantValue := 0 }, { name := "twoToTheDoubleScaleDown", type := .double, accessFlags := 8, slot := 8, constantValue := 0 }, { name := "$assertionsDisabled", type := .boolean, accessFlags := 4120, slot := 9, constantValue := 0 }]
  methods := #[k2m0, k2m1]
  instanceTypes := #[]
  staticTypes := #[.double, .double, .double, .double, .double, .long, .long, .double, .double, .boolean]
  resolved := Array.replicate 460 none
  statics := none }

def pool3 : Array CpInfo := pool [(4, .class_ 6), (1, u "java/lang/Object"), (0, u "<init>"), (0, u "()V"), (0, .class_ 10), (0, u "com/example/canonic/canonic/RiceCode"), (0, .integer 2147483639), (13, .long 8), (4, .class_ 31), (0, u "com/example/canonic/canonic/RiceCode$Bits"), (0, .methodref 30 33), (0, .nameAndType 7 34), (0, u "([B)V"), (0, .methodref 30 36), (0, .nameAndType 37 38), (0, u "unary"), (0, u "()J"), (0, .methodref 30 40), (0, .nameAndType 41 42), (0, u "read"), (0, u "(I)I"), (6, u "MIN_PARAMETER"), (0, u "I"), (2, u "MAX_PARAMETER"), (1, u "MAX_VALUES"), (2, u "decode"), (0, u "(JII[BJ)[I")] 35

def k3m0 : Method := { name := "<init>", desc := "()V", sig := { parameters := [], returnType := none }, accessFlags := 2, code := none }
def k3c1 : Code := { maxStack := 7, maxLocals := 15, code := prog_38_method_2_code, exceptionTable := #[], attributes := #[] }
def k3m1 : Method := { name := "decode", desc := "(JII[BJ)[I", sig := { parameters := [.long, .int, .int, (.array .byte), .long], returnType := some (.array .int) }, accessFlags := 8, code := some k3c1 }
/-- com/example/canonic/canonic/RiceCode -/
def k3 : Class := { plain "com/example/canonic/canonic/RiceCode" (some 0) with
  accessFlags := 48
  interfaces := #[]
  cf := some (fileOf pool3 9 #[.nestMembers #[30]] #[{ accessFlags := 2, nameIndex := 7, descriptorIndex := 8, attributes := #[] }, { accessFlags := 8, nameIndex := 58, descriptorIndex := 59, attributes := #[] }] 48 4 #[] #[{ accessFlags := 26, nameIndex := 49, descriptorIndex := 50, attributes := #[] }, { accessFlags := 26, nameIndex := 53, descriptorIndex := 50, attributes := #[] }, { accessFlags := 26, nameIndex := 55, descriptorIndex := 50, attributes := #[] }])
  fields := #[{ name := "MIN_PARAMETER", type := .int, accessFlags := 26, slot := 0, constantValue := 0 }, { name := "MAX_PARAMETER", type := .int, accessFlags := 26, slot := 1, constantValue := 0 }, { name := "MAX_VALUES", type := .int, accessFlags := 26, slot := 2, constantValue := 0 }]
  methods := #[k3m0, k3m1]
  instanceTypes := #[]
  staticTypes := #[.int, .int, .int]
  resolved := ((Array.replicate 95 none).setIfInBounds 32 (some (.method ⟨4, 0⟩))).setIfInBounds 30 (some (.cls 4))
  statics := none }

def pool4 : Array CpInfo := pool [(1, .methodref 2 3), (0, .class_ 4), (0, .nameAndType 5 6), (0, u "java/lang/Object"), (0, u "<init>"), (0, u "()V"), (0, .fieldref 8 9), (0, .class_ 10), (0, .nameAndType 11 12), (0, u "com/example/canonic/canonic/RiceCode$Bits"), (0, u "data"), (0, u "[B"), (0, .methodref 8 14), (0, .nameAndType 15 6), (0, u "refill"), (0, .fieldref 8 17), (0, .nameAndType 18 19), (0, u "buffered"), (0, u "I"), (0, .fieldref 8 21), (0, .nameAndType 22 23), (0, u "buffer"), (0, u "J"), (0, .long 18446744073709551615), (1, .methodref 27 28), (0, .class_ 29), (0, .nameAndType 30 31), (0, u "java/lang/Long"), (0, u "numberOfTrailingZeros"), (0, u "(J)I"), (0, .fieldref 8 33), (0, .nameAndType 34 19), (0, u "next"), (0, .long 255), (3, u "REFILL_BELOW"), (2, u "([B)V"), (2, u "unary"), (0, u "()J"), (1, u "read"), (0, u "(I)I"), (3, .class_ 54), (0, u "com/example/canonic/canonic/RiceCode")] 2

def k4c0 : Code := { maxStack := 2, maxLocals := 2, code := prog_39_method_1_code, exceptionTable := #[], attributes := #[] }
def k4m0 : Method := { name := "<init>", desc := "([B)V", sig := { parameters := [(.array .byte)], returnType := none }, accessFlags := 2, code := some k4c0 }
def k4c1 : Code := { maxStack := 5, maxLocals := 4, code := prog_39_method_2_code, exceptionTable := #[], attributes := #[] }
def k4m1 : Method := { name := "unary", desc := "()J", sig := { parameters := [], returnType := some .long }, accessFlags := 0, code := some k4c1 }
def k4c2 : Code := { maxStack := 6, maxLocals := 3, code := prog_39_method_3_code, exceptionTable := #[], attributes := #[] }
def k4m2 : Method := { name := "read", desc := "(I)I", sig := { parameters := [.int], returnType := some .int }, accessFlags := 0, code := some k4c2 }
def k4c3 : Code := { maxStack := 8, maxLocals := 1, code := prog_39_method_4_code, exceptionTable := #[], attributes := #[] }
def k4m3 : Method := { name := "refill", desc := "()V", sig := { parameters := [], returnType := none }, accessFlags := 2, code := some k4c3 }
/-- com/example/canonic/canonic/RiceCode$Bits -/
def k4 : Class := { plain "com/example/canonic/canonic/RiceCode$Bits" (some 0) with
  accessFlags := 48
  interfaces := #[]
  cf := some (fileOf pool4 8 #[.nestHost 53] #[{ accessFlags := 2, nameIndex := 5, descriptorIndex := 42, attributes := #[] }, { accessFlags := 0, nameIndex := 45, descriptorIndex := 46, attributes := #[] }, { accessFlags := 0, nameIndex := 48, descriptorIndex := 49, attributes := #[] }, { accessFlags := 2, nameIndex := 15, descriptorIndex := 6, attributes := #[] }] 48 2 #[] #[{ accessFlags := 26, nameIndex := 39, descriptorIndex := 19, attributes := #[] }, { accessFlags := 18, nameIndex := 11, descriptorIndex := 12, attributes := #[] }, { accessFlags := 2, nameIndex := 34, descriptorIndex := 19, attributes := #[] }, { accessFlags := 2, nameIndex := 22, descriptorIndex := 23, attributes := #[] }, { accessFlags := 2, nameIndex := 18, descriptorIndex := 19, attributes := #[] }])
  fields := #[{ name := "REFILL_BELOW", type := .int, accessFlags := 26, slot := 0, constantValue := 0 }, { name := "data", type := (.array .byte), accessFlags := 18, slot := 0, constantValue := 0 }, { name := "next", type := .int, accessFlags := 2, slot := 1, constantValue := 0 }, { name := "buffer", type := .long, accessFlags := 2, slot := 2, constantValue := 0 }, { name := "buffered", type := .int, accessFlags := 2, slot := 3, constantValue := 0 }]
  methods := #[k4m0, k4m1, k4m2, k4m3]
  instanceTypes := #[(.array .byte), .int, .long, .int]
  staticTypes := #[.int]
  resolved := Array.replicate 57 none
  statics := none }

def pool5 : Array CpInfo := pool [(1, .class_ 2), (0, u "java/io/Serializable"), (0, .class_ 4), (0, u "java/lang/Object")] 2

/-- java/io/Serializable -/
def k5 : Class := { plain "java/io/Serializable" (some 0) with
  accessFlags := 1537
  interfaces := #[]
  cf := some (fileOf pool5 1 #[] #[] 1537 3 #[] #[])
  fields := #[]
  methods := #[]
  instanceTypes := #[]
  staticTypes := #[]
  resolved := Array.replicate 7 none
  statics := none }

def pool6 : Array CpInfo := pool [(2, .class_ 4), (1, u "java/lang/Object"), (0, u "<init>"), (0, u "()V"), (1, .class_ 10), (1, u "java/lang/Number"), (2, .class_ 14), (0, u "java/io/Serializable"), (0, u "serialVersionUID"), (0, u "J")] 20

def k6m0 : Method := { name := "<init>", desc := "()V", sig := { parameters := [], returnType := none }, accessFlags := 1, code := none }
/-- java/lang/Number -/
def k6 : Class := { plain "java/lang/Number" (some 0) with
  accessFlags := 1057
  interfaces := #[5]
  cf := some (fileOf pool6 8 #[] #[{ accessFlags := 1, nameIndex := 5, descriptorIndex := 6, attributes := #[] }] 1057 2 #[13] #[{ accessFlags := 26, nameIndex := 15, descriptorIndex := 16, attributes := #[] }])
  fields := #[{ name := "serialVersionUID", type := .long, accessFlags := 26, slot := 0, constantValue := 0 }]
  methods := #[k6m0]
  instanceTypes := #[]
  staticTypes := #[.long]
  resolved := Array.replicate 37 none
  statics := none }

def pool7 : Array CpInfo := pool [(1, .class_ 2), (0, u "java/lang/Comparable"), (0, .class_ 4), (0, u "java/lang/Object")] 7

/-- java/lang/Comparable -/
def k7 : Class := { plain "java/lang/Comparable" (some 0) with
  accessFlags := 1537
  interfaces := #[]
  cf := some (fileOf pool7 1 #[] #[] 1537 3 #[] #[])
  fields := #[]
  methods := #[]
  instanceTypes := #[]
  staticTypes := #[]
  resolved := Array.replicate 12 none
  statics := none }

def pool8 : Array CpInfo := pool [(1, .class_ 2), (0, u "java/lang/constant/Constable"), (0, .class_ 4), (0, u "java/lang/Object")] 6

/-- java/lang/constant/Constable -/
def k8 : Class := { plain "java/lang/constant/Constable" (some 0) with
  accessFlags := 1537
  interfaces := #[]
  cf := some (fileOf pool8 1 #[] #[] 1537 3 #[] #[])
  fields := #[]
  methods := #[]
  instanceTypes := #[]
  staticTypes := #[]
  resolved := Array.replicate 11 none
  statics := none }

def pool9 : Array CpInfo := pool [(1, .class_ 2), (0, u "java/lang/constant/ConstantDesc"), (0, .class_ 4), (0, u "java/lang/Object")] 32

/-- java/lang/constant/ConstantDesc -/
def k9 : Class := { plain "java/lang/constant/ConstantDesc" (some 0) with
  accessFlags := 1537
  interfaces := #[]
  cf := some (fileOf pool9 1 #[] #[] 1537 3 #[] #[])
  fields := #[]
  methods := #[]
  instanceTypes := #[]
  staticTypes := #[]
  resolved := Array.replicate 37 none
  statics := none }

def pool10 : Array CpInfo := pool [(1, .class_ 2), (0, u "java/lang/Long"), (15, .class_ 20), (1, u "java/lang/Integer"), (80, u "(J)I"), (133, .class_ 237), (1, u "java/lang/Long$LongCache"), (33, .class_ 272), (0, u "java/lang/Number"), (2, u "value"), (0, u "J"), (33, u "(I)I"), (0, .methodref 18 312), (0, .nameAndType 313 310), (0, u "numberOfTrailingZeros"), (47, u "TYPE"), (0, u "Ljava/lang/Class;"), (0, .class_ 364), (0, u "java/lang/Comparable"), (0, .class_ 366), (0, u "java/lang/constant/Constable"), (0, .class_ 368), (0, u "java/lang/constant/ConstantDesc"), (0, u "MIN_VALUE"), (1, u "MAX_VALUE"), (4, u "SIZE"), (0, u "I"), (1, u "BYTES"), (1, u "serialVersionUID")] 142

def k10c0 : Code := { maxStack := 4, maxLocals := 3, code := jdk_35_method_49_code, exceptionTable := #[], attributes := #[] }
def k10m0 : Method := { name := "numberOfTrailingZeros", desc := "(J)I", sig := { parameters := [.long], returnType := some .int }, accessFlags := 9, code := some k10c0 }
/-- java/lang/Long -/
def k10 : Class := { plain "java/lang/Long" (some 6) with
  accessFlags := 49
  interfaces := #[7, 8, 9]
  cf := some (fileOf pool10 1 #[.nestMembers #[235]] #[{ accessFlags := 9, nameIndex := 313, descriptorIndex := 101, attributes := #[] }] 49 271 #[363, 365, 367] #[{ accessFlags := 25, nameIndex := 369, descriptorIndex := 276, attributes := #[] }, { accessFlags := 25, nameIndex := 371, descriptorIndex := 276, attributes := #[] }, { accessFlags := 25, nameIndex := 361, descriptorIndex := 362, attributes := #[] }, { accessFlags := 18, nameIndex := 275, descriptorIndex := 276, attributes := #[] }, { accessFlags := 25, nameIndex := 376, descriptorIndex := 377, attributes := #[] }, { accessFlags := 25, nameIndex := 379, descriptorIndex := 377, attributes := #[] }, { accessFlags := 26, nameIndex := 381, descriptorIndex := 276, attributes := #[] }])
  fields := #[{ name := "MIN_VALUE", type := .long, accessFlags := 25, slot := 0, constantValue := 0 }, { name := "MAX_VALUE", type := .long, accessFlags := 25, slot := 1, constantValue := 0 }, { name := "TYPE", type := (.object "java/lang/Class"), accessFlags := 25, slot := 2, constantValue := 0 }, { name := "value", type := .long, accessFlags := 18, slot := 0, constantValue := 0 }, { name := "SIZE", type := .int, accessFlags := 25, slot := 3, constantValue := 0 }, { name := "BYTES", type := .int, accessFlags := 25, slot := 4, constantValue := 0 }, { name := "serialVersionUID", type := .long, accessFlags := 26, slot := 5, constantValue := 0 }]
  methods := #[k10m0]
  instanceTypes := #[.long]
  staticTypes := #[.long, .long, (.object "java/lang/Class"), .int, .int, .long]
  resolved := Array.replicate 524 none
  statics := none }

def pool11 : Array CpInfo := pool [(1, .class_ 2), (0, u "java/lang/Integer"), (16, u "digits"), (0, u "[C"), (33, u "(I)I"), (30, u "DigitOnes"), (0, u "[B"), (2, u "DigitTens"), (99, .class_ 190), (0, u "java/lang/Integer$IntegerCache"), (3, u "I"), (8, .class_ 204), (0, u "java/lang/Number"), (2, u "value"), (56, .integer 65536), (37, u "TYPE"), (0, u "Ljava/lang/Class;"), (0, .class_ 305), (0, u "java/lang/Comparable"), (0, .class_ 307), (0, u "java/lang/constant/Constable"), (0, .class_ 309), (0, u "java/lang/constant/ConstantDesc"), (0, u "MIN_VALUE"), (1, u "MAX_VALUE"), (3, u "SIZE"), (1, u "BYTES"), (1, u "serialVersionUID"), (0, u "J"), (84, u "numberOfTrailingZeros")] 46

def k11c0 : Code := { maxStack := 3, maxLocals := 2, code := jdk_33_method_48_code, exceptionTable := #[], attributes := #[] }
def k11m0 : Method := { name := "numberOfTrailingZeros", desc := "(I)I", sig := { parameters := [.int], returnType := some .int }, accessFlags := 9, code := some k11c0 }
/-- java/lang/Integer -/
def k11 : Class := { plain "java/lang/Integer" (some 6) with
  accessFlags := 49
  interfaces := #[7, 8, 9]
  cf := some (fileOf pool11 1 #[.nestMembers #[189]] #[{ accessFlags := 9, nameIndex := 406, descriptorIndex := 54, attributes := #[] }] 49 203 #[304, 306, 308] #[{ accessFlags := 25, nameIndex := 310, descriptorIndex := 194, attributes := #[] }, { accessFlags := 25, nameIndex := 312, descriptorIndex := 194, attributes := #[] }, { accessFlags := 25, nameIndex := 302, descriptorIndex := 303, attributes := #[] }, { accessFlags := 24, nameIndex := 19, descriptorIndex := 20, attributes := #[] }, { accessFlags := 24, nameIndex := 89, descriptorIndex := 86, attributes := #[] }, { accessFlags := 24, nameIndex := 85, descriptorIndex := 86, attributes := #[] }, { accessFlags := 18, nameIndex := 207, descriptorIndex := 194, attributes := #[] }, { accessFlags := 25, nameIndex := 316, descriptorIndex := 194, attributes := #[] }, { accessFlags := 25, nameIndex := 318, descriptorIndex := 194, attributes := #[] }, { accessFlags := 26, nameIndex := 320, descriptorIndex := 321, attributes := #[] }])
  fields := #[{ name := "MIN_VALUE", type := .int, accessFlags := 25, slot := 0, constantValue := 0 }, { name := "MAX_VALUE", type := .int, accessFlags := 25, slot := 1, constantValue := 0 }, { name := "TYPE", type := (.object "java/lang/Class"), accessFlags := 25, slot := 2, constantValue := 0 }, { name := "digits", type := (.array .char), accessFlags := 24, slot := 3, constantValue := 0 }, { name := "DigitTens", type := (.array .byte), accessFlags := 24, slot := 4, constantValue := 0 }, { name := "DigitOnes", type := (.array .byte), accessFlags := 24, slot := 5, constantValue := 0 }, { name := "value", type := .int, accessFlags := 18, slot := 0, constantValue := 0 }, { name := "SIZE", type := .int, accessFlags := 25, slot := 6, constantValue := 0 }, { name := "BYTES", type := .int, accessFlags := 25, slot := 7, constantValue := 0 }, { name := "serialVersionUID", type := .long, accessFlags := 26, slot := 8, constantValue := 0 }]
  methods := #[k11m0]
  instanceTypes := #[.int]
  staticTypes := #[.int, .int, (.object "java/lang/Class"), (.array .char), (.array .byte), (.array .byte), .int, .int, .long]
  resolved := Array.replicate 453 none
  statics := none }

def pool12 : Array CpInfo := pool [(1, u "java/lang/Cloneable"), (0, .class_ 1), (0, u "java/lang/Object"), (0, .class_ 3)] 3

/-- java/lang/Cloneable -/
def k12 : Class := { plain "java/lang/Cloneable" (some 0) with
  accessFlags := 1537
  interfaces := #[]
  cf := some (fileOf pool12 2 #[] #[] 1537 4 #[] #[])
  fields := #[]
  methods := #[]
  instanceTypes := #[]
  staticTypes := #[]
  resolved := Array.replicate 8 none
  statics := none }

/-- the primitive byte -/
def k13 : Class := { plain "byte" none with kind := .primitive 'B', accessFlags := 0x411 }
/-- [B -/
def k14 : Class := { plain "[B" (some 0) with kind := .array 13 .byte, interfaces := #[12, 5], accessFlags := 1041 }

/-- the primitive int -/
def k15 : Class := { plain "int" none with kind := .primitive 'I', accessFlags := 0x411 }
/-- [I -/
def k16 : Class := { plain "[I" (some 0) with kind := .array 15 .int, interfaces := #[12, 5], accessFlags := 1041 }

/-- the primitive long -/
def k17 : Class := { plain "long" none with kind := .primitive 'J', accessFlags := 0x411 }
/-- [J -/
def k18 : Class := { plain "[J" (some 0) with kind := .array 17 .long, interfaces := #[12, 5], accessFlags := 1041 }

def heap : Heap := #[]
def classes : Array Class := #[k0, k1, k2, k3, k4, k5, k6, k7, k8, k9, k10, k11, k12, k13, k14, k15, k16, k17, k18]
def interned : List (Array UInt16 × Addr) := []
def slotsUsed : Nat := 0
def theMethod : MethodId := ⟨1, 1⟩
def args0 : Array Value := #[.long 5, .int 5, .long 5, .long 5, .long 5, .long 5]
def aboutOver (below : List Frame) : State where
  vm := { classes := classes, interned := interned.toArray }
  heap := heap
  slotsUsed := slotsUsed
  threads := #[{ frames := .invoking theMethod args0 :: below }]
def below0 : List Frame := [.native { method := ⟨0, 0⟩, args := #[] }]
def about1 : State := aboutOver below0
def p0 : Program := .bare "" "" ""
def e0 : Env := launch0.env 0 0 0
theorem w_frames : about1.frames = Frame.invoking theMethod args0 :: below0 := rfl
set_option maxRecDepth 65536 in
theorem w_args : argsFit about1.vm theMethod args0 = true := by decide +kernel
set_option maxRecDepth 65536 in
theorem w_heap : heapFits about1 = true := by decide +kernel
set_option maxRecDepth 65536 in
theorem w_runnable : about1.curStatus? = some .runnable := by decide +kernel
set_option maxRecDepth 65536 in
theorem w_alone : about1.alone = true := by decide +kernel
set_option maxRecDepth 65536 in
theorem w_named : about1.methodNamed? x = some theMethod := by decide +kernel
set_option maxRecDepth 65536 in
theorem w_hears : about1.hears theMethod below0 = true := by decide +kernel
set_option maxRecDepth 65536 in
theorem w_ripe : about1.ripe theMethod args0 below0 = true := by decide +kernel
theorem w_running : about1.status = .running := rfl
set_option maxRecDepth 65536 in
theorem w_room : about1.hasRoom e0.platform room_1 = true :=
  launch0.hasRoom_least _ room_1 (by decide +kernel) (by decide +kernel) (by decide +kernel) (by decide +kernel) (by decide +kernel) (by decide +kernel)
theorem allAtoms_all (ts : List Jvm.Cond) (a : Array Jvm.Value) (st : Jvm.State) : (allAtoms ts).before a st = ts.all (fun c => c.before a st) := by
  induction ts with
  | nil => rfl
  | cons c t ih =>
    show (Jvm.Cond.and c (allAtoms t)).before a st = _
    rw [Jvm.Cond.before_and, ih, List.all_cons]
def words1 : List Jvm.Cond := Jvm.Cond.code x code maxLocals ret :: tables_1
/-- a 'code' word, met by the world's own term for the bytes: nothing is compared byte by byte -/
theorem code_word {y : MethodName} {bytes : ByteArray} {mx : Nat} {rt : Option FieldType} {a : Array Value} {s : State} {m : MethodId} {meth : Method} {c : Code} (h1 : s.methodNamed? y = some m) (h2 : s.vm.method? m = some meth) (h3 : meth.code = some c) (h4 : c.code = bytes)
    (h5 : (c.maxLocals == mx && c.exceptionTable.isEmpty && decide (c.maxStack ≤ mostOperands) && decide (meth.sig.returnType = rt) && !meth.locks && decide (parseMethodDescriptor y.desc = some meth.sig)) = true) : (Jvm.Cond.code y bytes mx rt).before a s = true := by
  simp only [Bool.and_eq_true, beq_iff_eq, Bool.not_eq_true', decide_eq_true_eq] at h5
  obtain ⟨⟨⟨⟨⟨g1, g2⟩, g3⟩, g4⟩, g5⟩, g6⟩ := h5
  simp [Cond.before, Cond.holds, Cond.value, h1, h2, h3, h4, g1, g2, g3, g4, g5, g6]
def isCode : Jvm.Cond → Bool
  | .code _ _ _ _ => true
  | _ => false
theorem all_split {L : List Jvm.Cond} {P : Jvm.Cond → Bool} (h1 : L.all (fun c => isCode c || P c) = true) (h2 : ∀ c ∈ L.filter isCode, P c = true) : L.all P = true := by
  refine List.all_eq_true.mpr fun c hc => ?_
  have h := List.all_eq_true.mp h1 c hc
  rcases Bool.eq_false_or_eq_true (isCode c) with hi | hi
  · exact h2 c (List.mem_filter.mpr ⟨hc, hi⟩)
  · simpa [hi] using h
set_option maxRecDepth 65536 in
theorem w_c0 : (Jvm.Cond.code x code maxLocals ret).before args0 about1 = true := code_word (m := ⟨1, 1⟩) (meth := k1m1) (c := k1c1) (by decide +kernel) rfl rfl rfl (by decide +kernel)
set_option maxRecDepth 65536 in
theorem w_c1 : (Jvm.Cond.code ({ cls := "java/lang/Math", name := "max", desc := "(JJ)J" } : Jvm.MethodName) jdk_29_method_66_code (4 : Nat) (Option.some Jvm.ClassFile.FieldType.long)).before args0 about1 = true := code_word (m := ⟨2, 1⟩) (meth := k2m1) (c := k2c1) (by decide +kernel) rfl rfl rfl (by decide +kernel)
set_option maxRecDepth 65536 in
theorem w_c2 : (Jvm.Cond.code ({ cls := "com/example/canonic/canonic/RiceCodeDecodePinLaw", name := "put", desc := "([JJI)V" } : Jvm.MethodName) method_3_code (6 : Nat) (Option.none : Option Jvm.ClassFile.FieldType)).before args0 about1 = true := code_word (m := ⟨1, 2⟩) (meth := k1m2) (c := k1c2) (by decide +kernel) rfl rfl rfl (by decide +kernel)
set_option maxRecDepth 65536 in
theorem w_c3 : (Jvm.Cond.code ({ cls := "com/example/canonic/canonic/RiceCodeDecodePinLaw", name := "put8", desc := "([BIJ)V" } : Jvm.MethodName) method_4_code (4 : Nat) (Option.none : Option Jvm.ClassFile.FieldType)).before args0 about1 = true := code_word (m := ⟨1, 3⟩) (meth := k1m3) (c := k1c3) (by decide +kernel) rfl rfl rfl (by decide +kernel)
set_option maxRecDepth 65536 in
theorem w_c4 : (Jvm.Cond.code ({ cls := "com/example/canonic/canonic/RiceCode", name := "decode", desc := "(JII[BJ)[I" } : Jvm.MethodName) prog_38_method_2_code (15 : Nat) (Option.some (Jvm.ClassFile.FieldType.array Jvm.ClassFile.FieldType.int))).before args0 about1 = true := code_word (m := ⟨3, 1⟩) (meth := k3m1) (c := k3c1) (by decide +kernel) rfl rfl rfl (by decide +kernel)
set_option maxRecDepth 65536 in
theorem w_c5 : (Jvm.Cond.code ({ cls := "com/example/canonic/canonic/RiceCode$Bits", name := "<init>", desc := "([B)V" } : Jvm.MethodName) prog_39_method_1_code (2 : Nat) (Option.none : Option Jvm.ClassFile.FieldType)).before args0 about1 = true := code_word (m := ⟨4, 0⟩) (meth := k4m0) (c := k4c0) (by decide +kernel) rfl rfl rfl (by decide +kernel)
set_option maxRecDepth 65536 in
theorem w_c6 : (Jvm.Cond.code ({ cls := "java/lang/Object", name := "<init>", desc := "()V" } : Jvm.MethodName) object_method_1_code (1 : Nat) (Option.none : Option Jvm.ClassFile.FieldType)).before args0 about1 = true := code_word (m := ⟨0, 0⟩) (meth := k0m0) (c := k0c0) (by decide +kernel) rfl rfl rfl (by decide +kernel)
set_option maxRecDepth 65536 in
theorem w_c7 : (Jvm.Cond.code ({ cls := "com/example/canonic/canonic/RiceCode$Bits", name := "unary", desc := "()J" } : Jvm.MethodName) prog_39_method_2_code (4 : Nat) (Option.some Jvm.ClassFile.FieldType.long)).before args0 about1 = true := code_word (m := ⟨4, 1⟩) (meth := k4m1) (c := k4c1) (by decide +kernel) rfl rfl rfl (by decide +kernel)
set_option maxRecDepth 65536 in
theorem w_c8 : (Jvm.Cond.code ({ cls := "com/example/canonic/canonic/RiceCode$Bits", name := "refill", desc := "()V" } : Jvm.MethodName) prog_39_method_4_code (1 : Nat) (Option.none : Option Jvm.ClassFile.FieldType)).before args0 about1 = true := code_word (m := ⟨4, 3⟩) (meth := k4m3) (c := k4c3) (by decide +kernel) rfl rfl rfl (by decide +kernel)
set_option maxRecDepth 65536 in
theorem w_c9 : (Jvm.Cond.code ({ cls := "java/lang/Long", name := "numberOfTrailingZeros", desc := "(J)I" } : Jvm.MethodName) jdk_35_method_49_code (3 : Nat) (Option.some Jvm.ClassFile.FieldType.int)).before args0 about1 = true := code_word (m := ⟨10, 0⟩) (meth := k10m0) (c := k10c0) (by decide +kernel) rfl rfl rfl (by decide +kernel)
set_option maxRecDepth 65536 in
theorem w_c10 : (Jvm.Cond.code ({ cls := "java/lang/Integer", name := "numberOfTrailingZeros", desc := "(I)I" } : Jvm.MethodName) jdk_33_method_48_code (2 : Nat) (Option.some Jvm.ClassFile.FieldType.int)).before args0 about1 = true := code_word (m := ⟨11, 0⟩) (meth := k11m0) (c := k11c0) (by decide +kernel) rfl rfl rfl (by decide +kernel)
set_option maxRecDepth 65536 in
theorem w_c11 : (Jvm.Cond.code ({ cls := "com/example/canonic/canonic/RiceCode$Bits", name := "read", desc := "(I)I" } : Jvm.MethodName) prog_39_method_3_code (3 : Nat) (Option.some Jvm.ClassFile.FieldType.int)).before args0 about1 = true := code_word (m := ⟨4, 2⟩) (meth := k4m2) (c := k4c2) (by decide +kernel) rfl rfl rfl (by decide +kernel)
def codes1 : List Jvm.Cond := [Jvm.Cond.code x code maxLocals ret, Jvm.Cond.code ({ cls := "java/lang/Math", name := "max", desc := "(JJ)J" } : Jvm.MethodName) jdk_29_method_66_code (4 : Nat) (Option.some Jvm.ClassFile.FieldType.long), Jvm.Cond.code ({ cls := "com/example/canonic/canonic/RiceCodeDecodePinLaw", name := "put", desc := "([JJI)V" } : Jvm.MethodName) method_3_code (6 : Nat) (Option.none : Option Jvm.ClassFile.FieldType), Jvm.Cond.code ({ cls := "com/example/canonic/canonic/RiceCodeDecodePinLaw", name := "put8", desc := "([BIJ)V" } : Jvm.MethodName) method_4_code (4 : Nat) (Option.none : Option Jvm.ClassFile.FieldType), Jvm.Cond.code ({ cls := "com/example/canonic/canonic/RiceCode", name := "decode", desc := "(JII[BJ)[I" } : Jvm.MethodName) prog_38_method_2_code (15 : Nat) (Option.some (Jvm.ClassFile.FieldType.array Jvm.ClassFile.FieldType.int)), Jvm.Cond.code ({ cls := "com/example/canonic/canonic/RiceCode$Bits", name := "<init>", desc := "([B)V" } : Jvm.MethodName) prog_39_method_1_code (2 : Nat) (Option.none : Option Jvm.ClassFile.FieldType), Jvm.Cond.code ({ cls := "java/lang/Object", name := "<init>", desc := "()V" } : Jvm.MethodName) object_method_1_code (1 : Nat) (Option.none : Option Jvm.ClassFile.FieldType), Jvm.Cond.code ({ cls := "com/example/canonic/canonic/RiceCode$Bits", name := "unary", desc := "()J" } : Jvm.MethodName) prog_39_method_2_code (4 : Nat) (Option.some Jvm.ClassFile.FieldType.long), Jvm.Cond.code ({ cls := "com/example/canonic/canonic/RiceCode$Bits", name := "refill", desc := "()V" } : Jvm.MethodName) prog_39_method_4_code (1 : Nat) (Option.none : Option Jvm.ClassFile.FieldType), Jvm.Cond.code ({ cls := "java/lang/Long", name := "numberOfTrailingZeros", desc := "(J)I" } : Jvm.MethodName) jdk_35_method_49_code (3 : Nat) (Option.some Jvm.ClassFile.FieldType.int), Jvm.Cond.code ({ cls := "java/lang/Integer", name := "numberOfTrailingZeros", desc := "(I)I" } : Jvm.MethodName) jdk_33_method_48_code (2 : Nat) (Option.some Jvm.ClassFile.FieldType.int), Jvm.Cond.code ({ cls := "com/example/canonic/canonic/RiceCode$Bits", name := "read", desc := "(I)I" } : Jvm.MethodName) prog_39_method_3_code (3 : Nat) (Option.some Jvm.ClassFile.FieldType.int)]
set_option maxRecDepth 65536 in
theorem codes_eq : words1.filter isCode = codes1 := rfl
theorem w_codes : ∀ c ∈ words1.filter isCode, c.before args0 about1 = true := by
  rw [codes_eq]
  intro c hc
  simp only [codes1, List.mem_cons, List.not_mem_nil, or_false] at hc
  rcases hc with rfl | rfl | rfl | rfl | rfl | rfl | rfl | rfl | rfl | rfl | rfl | rfl
  · exact w_c0
  · exact w_c1
  · exact w_c2
  · exact w_c3
  · exact w_c4
  · exact w_c5
  · exact w_c6
  · exact w_c7
  · exact w_c8
  · exact w_c9
  · exact w_c10
  · exact w_c11
set_option maxRecDepth 65536 in
theorem w_t1 : (words1.take 24).all (fun c => isCode c || c.before args0 about1) = true := by decide +kernel
set_option maxRecDepth 65536 in
theorem w_t2 : ((words1.drop 24).take 24).all (fun c => isCode c || c.before args0 about1) = true := by decide +kernel
set_option maxRecDepth 65536 in
theorem w_t3 : ((words1.drop 24).drop 24).all (fun c => isCode c || c.before args0 about1) = true := by decide +kernel
theorem w_tables : (allAtoms (Jvm.Cond.code x code maxLocals ret :: tables_1)).before args0 about1 = true := by
  rw [allAtoms_all]
  show words1.all (fun c => c.before args0 about1) = true
  refine all_split ?_ w_codes
  rw [← List.take_append_drop 24 words1, List.all_append, w_t1, ← List.take_append_drop 24 (words1.drop 24), List.all_append, w_t2, w_t3]
  rfl
set_option maxRecDepth 65536 in
theorem w_case : (Jvm.Cond.and given_1 narrow_1).before args0 about1 = true := by decide +kernel
theorem w_applies : (headSpec (Jvm.Cond.code x code maxLocals ret :: tables_1) room_1).applies x e0.platform about1 = true :=
  (Spec.applies_iff w_frames).mpr ⟨w_running, w_runnable, w_alone, w_named, w_hears, w_ripe, w_room, w_tables⟩
theorem atStart : AtStart classFile x code maxLocals ret World_1 tables_1 room_1 Calls_1 rest_1 Pre_1 launch0 p0 e0 about1 theMethod args0 below0 :=
  ⟨lists_1, trivial, launch0.admits_env _ _ _, launch0.least_env, fairChoices_fair.cas, fairChoices_fair.clock, w_frames, w_args, w_heap, w_applies, trivial, trivial, w_case⟩
end start1
theorem witness_1 : WitnessClaimed_1 := ⟨start1.p0, start1.e0, start1.about1, start1.theMethod, start1.args0, start1.below0, start1.atStart⟩
end Jvm.Pilot.@@N@@
