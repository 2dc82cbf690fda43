import JvmDerived
import JvmDerived.Pilot.@@N@@Statement
import JvmDerived.Pilot.@@N@@Code
set_option linter.unusedVariables false
set_option linter.unusedSimpArgs false
namespace Jvm.Pilot.@@N@@
open Jvm Jvm.ClassFile Sem Op Lib Jvm.Free Jvm.Stand Jvm.LawKit Jvm.RoadKit Bundle Jvm.Pilot.@@N@@.Jvm.D
section OwnKit
variable {p : Program} {l : Launch} {e : Env} {R : Room} {s : State} {m : MethodId} {args : Array Value} {below : List Frame} {meth : Method} {c : Code} {T : State} {locs : List Loc} {cells slots : Nat}
/-- from the state A the body runs to its end and leaves what Q says -/
def own_Go (p : Program) (e : Env) (below : List Frame) (s : State) (Q : Option Value → Heap → List Loc → Prop) (kc ks : Nat) (A : State) : Prop :=
  ∃ s₂ o, Steps p.tables e below A s₂ ∧ s₂.status = .running ∧ Ended s₂ below o ∧ ∃ v L, o = .returned v ∧ Q v s₂.heap L ∧ FrameEnd s o s₂ L kc ks
theorem own_go {Q : Option Value → Heap → List Loc → Prop} {kc ks : Nat} {A B : State} (h : ∀ t, Steps p.tables e below B t → Steps p.tables e below A t) (k : own_Go p e below s Q kc ks B) : own_Go p e below s Q kc ks A := by
  obtain ⟨s₂, o, h1, h2⟩ := k
  exact ⟨s₂, o, h _ h1, h2⟩
/-- from the state A the body runs to the frame g', the heap as it was -/
def own_Arm (p : Program) (l : Launch) (e : Env) (R : Room) (s : State) (m : MethodId) (args : Array Value) (below : List Frame) (meth : Method) (c : Code) (cells slots n0 : Nat) (h : Heap) (g' : JFrame) (A : State) : Prop :=
  ∃ (T' : State) (locs' : List Loc), Stand p l e R s m args below meth c T' locs' cells slots ∧ Fr n0 locs' ∧ T'.heap = h ∧ ∀ t, Steps p.tables e below (T'.setTop g') t → Steps p.tables e below A t
theorem own_arm {n0 : Nat} {h : Heap} {g' : JFrame} {A B : State} (k1 : ∀ t, Steps p.tables e below B t → Steps p.tables e below A t) (k : own_Arm p l e R s m args below meth c cells slots n0 h g' B) : own_Arm p l e R s m args below meth c cells slots n0 h g' A := by
  obtain ⟨T', locs', h1, h2, h3, h4⟩ := k
  exact ⟨T', locs', h1, h2, h3, fun t kt => k1 t (h4 t kt)⟩
theorem own_armEnd {n0 : Nat} {h : Heap} {g g' : JFrame} (X : Stand p l e R s m args below meth c T locs cells slots) (N : Fr n0 locs) (eT : T.heap = h) (q : g' = g) : own_Arm p l e R s m args below meth c cells slots n0 h g' (T.setTop g) :=
  ⟨T, locs, X, N, eT, fun t kt => q ▸ kt⟩
theorem own_mrg {n0 : Nat} {h : Heap} {g g' : JFrame} (X : Stand p l e R s m args below meth c T locs cells slots) (k : own_Arm p l e R s m args below meth c cells slots n0 h g' (T.setTop g)) :
    ∃ (T' : State) (locs' : List Loc), Stand p l e R s m args below meth c T' locs' cells slots ∧ Fr n0 locs' ∧ T'.heap = h ∧ ∀ t, Steps p.tables e below (T'.setTop g') t → Steps p.tables e below (T.setTop g) t := k
theorem own_leave {Q : Option Value → Heap → List Loc → Prop} {kc ks : Nat} {A : State} {v : Option Value} (X : Stand p l e R s m args below meth c T locs cells slots) (hv : meth.sig.returnType = none → v = none) (hlk : meth.locks = false)
    (hc : cells ≤ kc) (hs : slots ≤ ks) (hQ : Q v T.heap locs) (k : ∀ fs, (∀ (f : JFrame) (acts : List Action), f.method = m → f.locked = none → f.entered = [] → (doReturn e (T.setTop f) acts v).1 = T.setFrames fs) → Steps p.tables e below A (T.setFrames fs)) : own_Go p e below s Q kc ks A := by
  obtain ⟨fs, hr, hrun, hended, hW, hsame⟩ := X.leave (v := v) hv hlk
  exact ⟨_, _, k fs hr, hrun, hended, _, _, rfl, hQ, ⟨_, rfl⟩, hW, hsame.mono hc hs⟩
theorem own_retI {Q : Option Value → Heap → List Loc → Prop} {kc ks pc : Nat} {Ls : Array Slot} {z : Int32} {rest : List Value} (X : Stand p l e R s m args below meth c T locs cells slots) (hx : p.tables.exec = Jvm.exec) (hret : meth.sig.returnType = some .int) (hlk : meth.locks = false)
    (hd : decode c.code pc = .ok (.ireturn, 1)) (hc : cells ≤ kc) (hs : slots ≤ ks) (hQ : Q (some (.int z)) T.heap locs) : own_Go p e below s Q kc ks (T.setTop (mkF m pc Ls (.int z :: rest))) := by
  refine own_leave X (fun h => by rw [hret] at h; cases h) hlk hc hs hQ fun fs hl => ?_
  have hm' : T.vm.method? m = some meth := X.method'
  have hn : narrow .int (.int z) = .int z := rfl
  show Steps p.tables e below (T.setTop { method := m, pc := pc, locals := Ls, stack := _ :: rest, locked := none }) _
  jvm_step X.here [X.here.top, hx, hd, hm', hret, hn]
  first | (intro acts; rw [hl _ acts rfl rfl rfl]) | rw [hl _ _ rfl rfl rfl]
  exact Steps.refl _
theorem own_retN {Q : Option Value → Heap → List Loc → Prop} {kc ks pc : Nat} {Ls : Array Slot} {z : Int32} {rest : List Value} {t : FieldType} (X : Stand p l e R s m args below meth c T locs cells slots) (hx : p.tables.exec = Jvm.exec) (hret : meth.sig.returnType = some t) (ht : t = .boolean ∨ t = .byte ∨ t = .char ∨ t = .short) (hlk : meth.locks = false)
    (hd : decode c.code pc = .ok (.ireturn, 1)) (hc : cells ≤ kc) (hs : slots ≤ ks) (hQ : Q (some (.int (nar t z))) T.heap locs) : own_Go p e below s Q kc ks (T.setTop (mkF m pc Ls (.int z :: rest))) :=
  own_leave X (fun h => by rw [hret] at h; cases h) hlk hc hs hQ fun fs hl => retN X hx (t := t) hret ht hd hl
theorem own_nar01 {z : Int32} (h : z = 0 ∨ z = 1) : nar .boolean z = z := by rcases h with rfl | rfl <;> rfl
theorem own_retZ {Q : Option Value → Heap → List Loc → Prop} {kc ks pc : Nat} {Ls : Array Slot} {z : Int32} {rest : List Value} (X : Stand p l e R s m args below meth c T locs cells slots) (hx : p.tables.exec = Jvm.exec) (hret : meth.sig.returnType = some .boolean) (hlk : meth.locks = false)
    (hd : decode c.code pc = .ok (.ireturn, 1)) (hc : cells ≤ kc) (hs : slots ≤ ks) (hz : z = 0 ∨ z = 1) (hQ : Q (some (.int z)) T.heap locs) : own_Go p e below s Q kc ks (T.setTop (mkF m pc Ls (.int z :: rest))) :=
  own_retN X hx hret (Or.inl rfl) hlk hd hc hs (by rw [own_nar01 hz]; exact hQ)
theorem own_retJ {Q : Option Value → Heap → List Loc → Prop} {kc ks pc : Nat} {Ls : Array Slot} {z : Int64} (X : Stand p l e R s m args below meth c T locs cells slots) (hx : p.tables.exec = Jvm.exec) (hret : meth.sig.returnType = some .long) (hlk : meth.locks = false)
    (hd : decode c.code pc = .ok (.lreturn, 1)) (hc : cells ≤ kc) (hs : slots ≤ ks) (hQ : Q (some (.long z)) T.heap locs) : own_Go p e below s Q kc ks (T.setTop (mkF m pc Ls [.long z])) :=
  own_leave X (fun h => by rw [hret] at h; cases h) hlk hc hs hQ fun fs hl => X.lreturnOut hx hret hd hl
theorem own_retA {Q : Option Value → Heap → List Loc → Prop} {kc ks pc : Nat} {Ls : Array Slot} {w : Value} {t : FieldType} {rest : List Value} (X : Stand p l e R s m args below meth c T locs cells slots) (hx : p.tables.exec = Jvm.exec) (hret : meth.sig.returnType = some t) (ht : t.isReference = true) (hw : w.isRef = true) (hlk : meth.locks = false)
    (hd : decode c.code pc = .ok (.areturn, 1)) (hc : cells ≤ kc) (hs : slots ≤ ks) (hQ : Q (some w) T.heap locs) : own_Go p e below s Q kc ks (T.setTop (mkF m pc Ls (w :: rest))) := by
  refine own_leave X (fun h => by rw [hret] at h; cases h) hlk hc hs hQ fun fs hl => ?_
  have hm' : T.vm.method? m = some meth := X.method'
  show Steps p.tables e below (T.setTop { method := m, pc := pc, locals := Ls, stack := _ :: rest, locked := none }) _
  rcases ref_cases hw with rfl | ⟨a, rfl⟩
  all_goals
    jvm_step X.here [X.here.top, hx, hd, hm', hret, Value.isRef, ht]
    first | (intro acts; rw [hl _ acts rfl rfl rfl]) | rw [hl _ _ rfl rfl rfl]
    exact Steps.refl _
theorem own_retV {Q : Option Value → Heap → List Loc → Prop} {kc ks pc : Nat} {Ls : Array Slot} (X : Stand p l e R s m args below meth c T locs cells slots) (hx : p.tables.exec = Jvm.exec) (hret : meth.sig.returnType = none) (hlk : meth.locks = false)
    (hd : decode c.code pc = .ok (.return_, 1)) (hc : cells ≤ kc) (hs : slots ≤ ks) (hQ : Q none T.heap locs) : own_Go p e below s Q kc ks (T.setTop (mkF m pc Ls [])) :=
  own_leave X (fun _ => rfl) hlk hc hs hQ fun fs hl => X.returnOut hx hret hd hl
theorem own_getFR {Z : State} {a0 : Array Value} {h : Heap} (X : Stand p l e R s m args below meth c T locs cells slots) (hx : p.tables.exec = Jvm.exec) (hZ : Z.Warmed39 s.vm) {own O n d : String} {index : Nat} (hown : s.vm.findClass own = some m.cls) (w : (Jvm.Cond.fieldRef own index O n d).before a0 Z = true)
    (eT : T.heap = h) {a : Addr} {v : Value} (F : Fld Z h a O n d v) {g : JFrame} (hg : g.method = m) {rest : List Value} (hs : g.stack = .ref a :: rest) (hd : decode c.code g.pc = .ok (.getfield index, 3)) (target : State) (k : Steps p.tables e below (T.setTop { g with pc := g.pc + 3, stack := v :: rest }) target) : Steps p.tables e below (T.setTop g) target := by
  obtain ⟨cell, cf, kc, i, f, h1, h2, h3, h4, -, -, h7⟩ := F
  have hW : Z.Warmed39 T.vm := wtrans hZ X.warmed
  have w2 := Cond.fieldRef_warmed39 hW w
  obtain ⟨k', hi, -⟩ := State.fieldFound?_setVm (s := Z) hW.alike h2
  have hc : (Z.setVm T.vm).vm.findClass own = some m.cls := by show T.vm.findClass own = _; rw [X.warmed.alike.findClass]; exact hown
  obtain ⟨c1, k1, i1, f1, e1, hr⟩ := Cond.fieldRef_spec hc w2
  cases hi.symm.trans e1
  exact (X.getfieldR hx hg (cF := cf) (field := f) hr h3 hs (by rw [eT]; exact h1) h4 h7 hd (Steps.refl _)).trans k
theorem own_ite01 {c : Prop} [Decidable c] {a b : Int32} (ha : a = 0 ∨ a = 1) (hb : b = 0 ∨ b = 1) : (if c then a else b) = 0 ∨ (if c then a else b) = 1 := by split <;> assumption
end OwnKit
theorem own_wd {a0 : Array Value} {Z : State} (hw : ∀ d ∈ tables_1, d.before a0 Z = true) {d : Jvm.Cond} (i : Nat) (h : tables_1[i]? = some d) : d.before a0 Z = true := hw _ (List.mem_of_getElem? h)
theorem own_selPriv {s : State} {args : Array Value} {y : MethodName} {k : Nat} (wi : (Jvm.Cond.instantiable y.cls k).before args s = true) (hinst : (Jvm.Cond.instanceMethod y).before args s = true) (hpriv : s.PrivateAt y) (hy : y.cls ≠ "java/lang/invoke/MethodHandle" ∧ y.cls ≠ "java/lang/invoke/VarHandle") : (Jvm.Cond.selects y.cls y y).before args s = true := by
  obtain ⟨t, kt, t1, t2, t3, t4, -⟩ := Cond.instantiable_spec wi
  have t5 : kt.isInterface = false := by
    cases q : kt.isInterface
    · rfl
    · rw [q] at t4; cases t4
  exact selects_self_of_private t1 t2 t5 hpriv hinst hy
theorem own_remI (a b : Int32) : a - a / b * b = a % b := by
  apply Int32.toInt_inj.mp
  rw [Int32.toInt_sub, Int32.toInt_mul, Int32.toInt_div, Int32.toInt_mod]
  rw [Int.bmod_mul_bmod, Int.sub_bmod_bmod]
  have e : a.toInt - a.toInt.tdiv b.toInt * b.toInt = a.toInt.tmod b.toInt := by
    have := Int.mul_tdiv_add_tmod a.toInt b.toInt
    rw [Int.mul_comm] at this
    omega
  rw [e, ← Int32.toInt_mod]
  exact Int.bmod_eq_of_le (by have := Int32.le_toInt (a % b); omega) (by have := Int32.toInt_lt (a % b); omega)
theorem own_remJ (a b : Int64) : a - a / b * b = a % b := by
  apply Int64.toInt_inj.mp
  rw [Int64.toInt_sub, Int64.toInt_mul, Int64.toInt_div, Int64.toInt_mod]
  rw [Int.bmod_mul_bmod, Int.sub_bmod_bmod]
  have e : a.toInt - a.toInt.tdiv b.toInt * b.toInt = a.toInt.tmod b.toInt := by
    have := Int.mul_tdiv_add_tmod a.toInt b.toInt
    rw [Int.mul_comm] at this
    omega
  rw [e, ← Int64.toInt_mod]
  exact Int.bmod_eq_of_le (by have := Int64.le_toInt (a % b); omega) (by have := Int64.toInt_lt (a % b); omega)
theorem own_lc_eq {a b : Int64} (h : a = b) : lcmpW a b = 0 := by subst h; simp [lcmpW]
theorem own_lc_neq {a b : Int64} (h : ¬ (a = b)) : ¬ (lcmpW a b = 0) := by unfold lcmpW; split <;> first | decide | (rw [if_neg h]; decide)
theorem own_lc_lt {a b : Int64} (h : a < b) : lcmpW a b < 0 := by
  have h1 : ¬ (a > b) := fun q => Int64.lt_irrefl (Int64.lt_trans h q)
  have h2 : ¬ (a = b) := fun q => by subst q; exact Int64.lt_irrefl h
  rw [lcmpW, if_neg h1, if_neg h2]; decide
theorem own_lc_nlt {a b : Int64} (h : ¬ (a < b)) : ¬ (lcmpW a b < 0) := by
  unfold lcmpW
  split
  · decide
  · rename_i h1
    split
    · decide
    · rename_i h2; exact absurd (Int64.le_antisymm (Int64.not_lt.mp h1) (Int64.not_lt.mp h)) h2
theorem own_lc_gt {a b : Int64} (h : b < a) : (0 : Int32) < lcmpW a b := by rw [lcmpW, if_pos h]; decide
theorem own_lc_ngt {a b : Int64} (h : ¬ (b < a)) : ¬ ((0 : Int32) < lcmpW a b) := by
  rw [lcmpW, if_neg h]; split <;> decide
theorem own_rn {w : Value} {C : String} (h : w.isRef = true) : narrow (.object C) w = w := by rcases ref_cases h with rfl | ⟨a, rfl⟩ <;> rfl
theorem own_rf {w : Value} {C : String} (h : w.isRef = true) : fits (.object C) w = true := by rcases ref_cases h with rfl | ⟨a, rfl⟩ <;> rfl
theorem own_plainE {Z : State} {h : Heap} {a : Addr} {C : String} (E : Exa Z h a C) : ∀ cell : Cell, h[a]? = some cell → cell.vm.isStatics = false := fun cell hc => by
  obtain ⟨c, k, h1, -, -, h4, -⟩ := E
  cases h1.symm.trans hc; exact h4
theorem own_staKeep {Z : State} {h h' : Heap} {C n d : String} {v : Value} {ws : List Addr} (F : Sta Z h C n d v) (K : Keep h h' ws) (q : ∀ x ∈ ws, ∀ cell : Cell, h[x]? = some cell → cell.vm.isStatics = false) : Sta Z h' C n d v := by
  obtain ⟨cf, i, k, f, st, cell, h1, h2, h3, h4, h5, h6, h7⟩ := F
  exact ⟨cf, i, k, f, st, cell, h1, h2, h3, h4, K.2.1 st cell h5 (fun hm => by rw [q st hm cell h5] at h6; cases h6), h6, h7⟩
def own_up {α : Type} (f : Nat → α) (i : Nat) (v : α) : Nat → α := fun k => if k = i then v else f k
def own_AI (Z : State) (h : Heap) (a : Addr) (ty : FieldType) (n : Nat) (f : Nat → Int32) : Prop := ∃ c : Cell, Arr Z h a c ty ∧ c.slots.size = n ∧ n < 2 ^ 31 ∧ ∀ j, j < n → c.slots[j]? = some (.int (f j))
theorem own_AI.lt {Z : State} {h : Heap} {a : Addr} {ty : FieldType} {n : Nat} {f : Nat → Int32} (F : own_AI Z h a ty n f) : a < h.size := by obtain ⟨c, A, -⟩ := F; exact A.lt
theorem own_AI.ext {Z : State} {h h' : Heap} {a : Addr} {ty : FieldType} {n : Nat} {f : Nat → Int32} (F : own_AI Z h a ty n f) (E : Ext h h') : own_AI Z h' a ty n f := by obtain ⟨c, A, r⟩ := F; exact ⟨c, A.ext E, r⟩
theorem own_AI.other {Z : State} {h h' : Heap} {a b : Addr} {ty : FieldType} {n sl : Nat} {w : Value} {f : Nat → Int32} (F : own_AI Z h a ty n f) (W : Wr h h' b sl w) (q : a ≠ b) : own_AI Z h' a ty n f := by obtain ⟨c, A, r⟩ := F; exact ⟨c, A.other W q, r⟩
theorem own_AI.keep {Z : State} {h h' : Heap} {a : Addr} {ty : FieldType} {n : Nat} {ws : List Addr} {f : Nat → Int32} (F : own_AI Z h a ty n f) (K : Keep h h' ws) (q : a ∉ ws) : own_AI Z h' a ty n f := by obtain ⟨c, A, r⟩ := F; exact ⟨c, ⟨K.2.1 a c A.1 q, A.2⟩, r⟩
theorem own_plainAI {Z : State} {h : Heap} {a : Addr} {ty : FieldType} {n : Nat} {f : Nat → Int32} (F : own_AI Z h a ty n f) : ∀ cell : Cell, h[a]? = some cell → cell.vm.isStatics = false := fun cell hc => by
  obtain ⟨c, A, -⟩ := F
  cases A.1.symm.trans hc; exact A.plain
theorem own_AI.wr {Z : State} {h h' : Heap} {a : Addr} {ty : FieldType} {n i : Nat} {x : Int32} {f : Nat → Int32} (F : own_AI Z h a ty n f) (W : Wr h h' a i (.int x)) : own_AI Z h' a ty n (own_up f i x) := by
  obtain ⟨c, A, S, B, H⟩ := F
  refine ⟨_, A.same W, by rw [sz_set]; exact S, B, fun j hj => ?_⟩
  show (c.slots.setIfInBounds i _)[j]? = _
  rw [Array.getElem?_setIfInBounds]
  by_cases q : i = j
  · subst q
    rw [if_pos rfl, if_pos (by rw [S]; exact hj)]; simp [own_up]
  · rw [if_neg q, H j hj, own_up, if_neg (fun e => q e.symm)]
theorem own_AI.new {Z : State} {h : Heap} {a : Addr} {k : ClassId} {ty : FieldType} {z : Int32} {n : Nat} (A : Arr Z h a (newA k ty z) ty) (hd : defaultValue ty = .int 0) (hn : z.toNatClampNeg = n) : own_AI Z h a ty n (fun _ => 0) := by
  refine ⟨_, A, by rw [sz_new]; exact hn, ?_, fun j hj => ?_⟩
  · have := Int32.toInt_lt z; rw [← hn]; unfold Int32.toNatClampNeg; omega
  · have hs : (newA k ty z).slots.size = n := by rw [sz_new]; exact hn
    simp only [newA] at hs ⊢
    rw [Array.getElem?_replicate, if_pos (by rw [hn]; exact hj), hd]
def own_AJ (Z : State) (h : Heap) (a : Addr) (ty : FieldType) (n : Nat) (f : Nat → Int64) : Prop := ∃ c : Cell, Arr Z h a c ty ∧ c.slots.size = n ∧ n < 2 ^ 31 ∧ ∀ j, j < n → c.slots[j]? = some (.long (f j))
theorem own_AJ.lt {Z : State} {h : Heap} {a : Addr} {ty : FieldType} {n : Nat} {f : Nat → Int64} (F : own_AJ Z h a ty n f) : a < h.size := by obtain ⟨c, A, -⟩ := F; exact A.lt
theorem own_AJ.ext {Z : State} {h h' : Heap} {a : Addr} {ty : FieldType} {n : Nat} {f : Nat → Int64} (F : own_AJ Z h a ty n f) (E : Ext h h') : own_AJ Z h' a ty n f := by obtain ⟨c, A, r⟩ := F; exact ⟨c, A.ext E, r⟩
theorem own_AJ.other {Z : State} {h h' : Heap} {a b : Addr} {ty : FieldType} {n sl : Nat} {w : Value} {f : Nat → Int64} (F : own_AJ Z h a ty n f) (W : Wr h h' b sl w) (q : a ≠ b) : own_AJ Z h' a ty n f := by obtain ⟨c, A, r⟩ := F; exact ⟨c, A.other W q, r⟩
theorem own_AJ.keep {Z : State} {h h' : Heap} {a : Addr} {ty : FieldType} {n : Nat} {ws : List Addr} {f : Nat → Int64} (F : own_AJ Z h a ty n f) (K : Keep h h' ws) (q : a ∉ ws) : own_AJ Z h' a ty n f := by obtain ⟨c, A, r⟩ := F; exact ⟨c, ⟨K.2.1 a c A.1 q, A.2⟩, r⟩
theorem own_plainAJ {Z : State} {h : Heap} {a : Addr} {ty : FieldType} {n : Nat} {f : Nat → Int64} (F : own_AJ Z h a ty n f) : ∀ cell : Cell, h[a]? = some cell → cell.vm.isStatics = false := fun cell hc => by
  obtain ⟨c, A, -⟩ := F
  cases A.1.symm.trans hc; exact A.plain
theorem own_AJ.wr {Z : State} {h h' : Heap} {a : Addr} {ty : FieldType} {n i : Nat} {x : Int64} {f : Nat → Int64} (F : own_AJ Z h a ty n f) (W : Wr h h' a i (.long x)) : own_AJ Z h' a ty n (own_up f i x) := by
  obtain ⟨c, A, S, B, H⟩ := F
  refine ⟨_, A.same W, by rw [sz_set]; exact S, B, fun j hj => ?_⟩
  show (c.slots.setIfInBounds i _)[j]? = _
  rw [Array.getElem?_setIfInBounds]
  by_cases q : i = j
  · subst q
    rw [if_pos rfl, if_pos (by rw [S]; exact hj)]; simp [own_up]
  · rw [if_neg q, H j hj, own_up, if_neg (fun e => q e.symm)]
theorem own_AJ.new {Z : State} {h : Heap} {a : Addr} {k : ClassId} {ty : FieldType} {z : Int32} {n : Nat} (A : Arr Z h a (newA k ty z) ty) (hd : defaultValue ty = .long 0) (hn : z.toNatClampNeg = n) : own_AJ Z h a ty n (fun _ => 0) := by
  refine ⟨_, A, by rw [sz_new]; exact hn, ?_, fun j hj => ?_⟩
  · have := Int32.toInt_lt z; rw [← hn]; unfold Int32.toNatClampNeg; omega
  · have hs : (newA k ty z).slots.size = n := by rw [sz_new]; exact hn
    simp only [newA] at hs ⊢
    rw [Array.getElem?_replicate, if_pos (by rw [hn]; exact hj), hd]
section OwnArr
variable {p : Program} {l : Launch} {e : Env} {R : Room} {s : State} {m : MethodId} {args : Array Value} {below : List Frame} {meth : Method} {c : Code} {T : State} {locs : List Loc} {cells slots : Nat} {Z : State} {h : Heap}
theorem own_inb {j : Int32} {n k : Nat} (S : k = n) (hj : ¬ j < 0 ∧ j.toNatClampNeg < n) : ¬ (j < 0 ∨ k ≤ j.toNatClampNeg) := fun q => q.elim hj.1 (fun u => absurd hj.2 (by omega))
theorem own_ldI (X : Stand p l e R s m args below meth c T locs cells slots) (hx : p.tables.exec = Jvm.exec) (hZ : Z.Warmed39 s.vm) (eT : T.heap = h) {a : Addr} {n : Nat} {f : Nat → Int32} (A : own_AI Z h a .int n f) {j : Int32} (hj : ¬ j < 0 ∧ j.toNatClampNeg < n)
    {g : JFrame} (hg : g.method = m) {rest : List Value} (hs : g.stack = .int j :: .ref a :: rest) (hd : decode c.code g.pc = .ok (.iaload, 1)) (target : State) (k : Steps p.tables e below (T.setTop { g with pc := g.pc + 1, stack := .int (f j.toNatClampNeg) :: rest }) target) : Steps p.tables e below (T.setTop g) target := by
  obtain ⟨c', Ar, S, -, H⟩ := A
  exact X.iaload hx (by rw [eT]; exact Ar.1) (State.isArrayOf_alike hZ.alike Ar.2.1) Ar.2.2 (own_inb S hj) (H _ hj.2) hg hs hd target k
theorem own_ldB (X : Stand p l e R s m args below meth c T locs cells slots) (hx : p.tables.exec = Jvm.exec) (hZ : Z.Warmed39 s.vm) (eT : T.heap = h) {a : Addr} {n : Nat} {f : Nat → Int32} (A : own_AI Z h a .byte n f) {j : Int32} (hj : ¬ j < 0 ∧ j.toNatClampNeg < n)
    {g : JFrame} (hg : g.method = m) {rest : List Value} (hs : g.stack = .int j :: .ref a :: rest) (hd : decode c.code g.pc = .ok (.baload, 1)) (target : State) (k : Steps p.tables e below (T.setTop { g with pc := g.pc + 1, stack := .int (f j.toNatClampNeg) :: rest }) target) : Steps p.tables e below (T.setTop g) target := by
  obtain ⟨c', Ar, S, -, H⟩ := A
  exact X.baloadBytes hx (by rw [eT]; exact Ar.1) (State.isArrayOf_alike hZ.alike Ar.2.1) Ar.2.2 (own_inb S hj) (H _ hj.2) hg hs hd target k
theorem own_ldJ (X : Stand p l e R s m args below meth c T locs cells slots) (hx : p.tables.exec = Jvm.exec) (hZ : Z.Warmed39 s.vm) (eT : T.heap = h) {a : Addr} {n : Nat} {f : Nat → Int64} (A : own_AJ Z h a .long n f) {j : Int32} (hj : ¬ j < 0 ∧ j.toNatClampNeg < n)
    {g : JFrame} (hg : g.method = m) {rest : List Value} (hs : g.stack = .int j :: .ref a :: rest) (hd : decode c.code g.pc = .ok (.laload, 1)) (target : State) (k : Steps p.tables e below (T.setTop { g with pc := g.pc + 1, stack := .long (f j.toNatClampNeg) :: rest }) target) : Steps p.tables e below (T.setTop g) target := by
  obtain ⟨c', Ar, S, -, H⟩ := A
  exact X.laload hx (by rw [eT]; exact Ar.1) (State.isArrayOf_alike hZ.alike Ar.2.1) Ar.2.2 (own_inb S hj) (H _ hj.2) hg hs hd target k
theorem own_lenI (X : Stand p l e R s m args below meth c T locs cells slots) (hx : p.tables.exec = Jvm.exec) (hZ : Z.Warmed39 s.vm) (eT : T.heap = h) {a : Addr} {ty : FieldType} {n : Nat} {f : Nat → Int32} (A : own_AI Z h a ty n f)
    {g : JFrame} (hg : g.method = m) {rest : List Value} (hs : g.stack = .ref a :: rest) (hd : decode c.code g.pc = .ok (.arraylength, 1)) (target : State) (k : Steps p.tables e below (T.setTop { g with pc := g.pc + 1, stack := .int (n.toInt32) :: rest }) target) : Steps p.tables e below (T.setTop g) target := by
  obtain ⟨c', Ar, S, -, H⟩ := A
  exact X.arraylength hx (by rw [eT]; exact Ar.1) (State.isArrayOf_alike hZ.alike Ar.2.1) hg hs hd target (by rw [S]; exact k)
theorem own_lenJ (X : Stand p l e R s m args below meth c T locs cells slots) (hx : p.tables.exec = Jvm.exec) (hZ : Z.Warmed39 s.vm) (eT : T.heap = h) {a : Addr} {ty : FieldType} {n : Nat} {f : Nat → Int64} (A : own_AJ Z h a ty n f)
    {g : JFrame} (hg : g.method = m) {rest : List Value} (hs : g.stack = .ref a :: rest) (hd : decode c.code g.pc = .ok (.arraylength, 1)) (target : State) (k : Steps p.tables e below (T.setTop { g with pc := g.pc + 1, stack := .int (n.toInt32) :: rest }) target) : Steps p.tables e below (T.setTop g) target := by
  obtain ⟨c', Ar, S, -, H⟩ := A
  exact X.arraylength hx (by rw [eT]; exact Ar.1) (State.isArrayOf_alike hZ.alike Ar.2.1) hg hs hd target (by rw [S]; exact k)
theorem own_stI (X : Stand p l e R s m args below meth c T locs cells slots) (hx : p.tables.exec = Jvm.exec) (hZ : Z.Warmed39 s.vm) (eT : T.heap = h) {a : Addr} {n : Nat} {f : Nat → Int32} (A : own_AI Z h a .int n f) {j x : Int32} (hj : ¬ j < 0 ∧ j.toNatClampNeg < n)
    {g : JFrame} (hg : g.method = m) {rest : List Value} (hs : g.stack = .int x :: .int j :: .ref a :: rest) (hd : decode c.code g.pc = .ok (.iastore, 1)) :
    ∃ T' h', Stand p l e R s m args below meth c T' (locs ++ [⟨a, j.toNatClampNeg⟩]) cells slots ∧ T'.heap = h' ∧ Wr h h' a j.toNatClampNeg (.int x) ∧ own_AI Z h' a .int n (own_up f j.toNatClampNeg x) ∧ ∀ target, Steps p.tables e below (T'.setTop { g with pc := g.pc + 1, stack := rest }) target → Steps p.tables e below (T.setTop g) target := by
  have A2 := A
  obtain ⟨c', Ar, S, -, H⟩ := A
  obtain ⟨T', h', X', e', W, st⟩ := stI X hx hZ eT Ar (j := j) (x := x) (own_inb S hj) hg hs hd
  exact ⟨T', h', X', e', W, A2.wr W, st⟩
theorem own_stB (X : Stand p l e R s m args below meth c T locs cells slots) (hx : p.tables.exec = Jvm.exec) (hZ : Z.Warmed39 s.vm) (eT : T.heap = h) {a : Addr} {n : Nat} {f : Nat → Int32} (A : own_AI Z h a .byte n f) {j x : Int32} (hj : ¬ j < 0 ∧ j.toNatClampNeg < n)
    {g : JFrame} (hg : g.method = m) {rest : List Value} (hs : g.stack = .int x :: .int j :: .ref a :: rest) (hd : decode c.code g.pc = .ok (.bastore, 1)) :
    ∃ T' h', Stand p l e R s m args below meth c T' (locs ++ [⟨a, j.toNatClampNeg⟩]) cells slots ∧ T'.heap = h' ∧ Wr h h' a j.toNatClampNeg (.int (nar .byte x)) ∧ own_AI Z h' a .byte n (own_up f j.toNatClampNeg (nar .byte x)) ∧ ∀ target, Steps p.tables e below (T'.setTop { g with pc := g.pc + 1, stack := rest }) target → Steps p.tables e below (T.setTop g) target := by
  have A2 := A
  obtain ⟨c', Ar, S, -, H⟩ := A
  obtain ⟨T', h', X', e', W, st⟩ := stB X hx hZ eT Ar (j := j) (x := x) (own_inb S hj) hg hs hd
  exact ⟨T', h', X', e', W, A2.wr W, st⟩
theorem own_stC (X : Stand p l e R s m args below meth c T locs cells slots) (hx : p.tables.exec = Jvm.exec) (hZ : Z.Warmed39 s.vm) (eT : T.heap = h) {a : Addr} {n : Nat} {f : Nat → Int32} (A : own_AI Z h a .char n f) {j x : Int32} (hj : ¬ j < 0 ∧ j.toNatClampNeg < n)
    {g : JFrame} (hg : g.method = m) {rest : List Value} (hs : g.stack = .int x :: .int j :: .ref a :: rest) (hd : decode c.code g.pc = .ok (.castore, 1)) :
    ∃ T' h', Stand p l e R s m args below meth c T' (locs ++ [⟨a, j.toNatClampNeg⟩]) cells slots ∧ T'.heap = h' ∧ Wr h h' a j.toNatClampNeg (.int (nar .char x)) ∧ own_AI Z h' a .char n (own_up f j.toNatClampNeg (nar .char x)) ∧ ∀ target, Steps p.tables e below (T'.setTop { g with pc := g.pc + 1, stack := rest }) target → Steps p.tables e below (T.setTop g) target := by
  have A2 := A
  obtain ⟨c', Ar, S, -, H⟩ := A
  obtain ⟨T', h', X', e', W, st⟩ := stC X hx hZ eT Ar (j := j) (x := x) (own_inb S hj) hg hs hd
  exact ⟨T', h', X', e', W, A2.wr W, st⟩
theorem own_stJ (X : Stand p l e R s m args below meth c T locs cells slots) (hx : p.tables.exec = Jvm.exec) (hZ : Z.Warmed39 s.vm) (eT : T.heap = h) {a : Addr} {n : Nat} {f : Nat → Int64} (A : own_AJ Z h a .long n f) {j : Int32} {x : Int64} (hj : ¬ j < 0 ∧ j.toNatClampNeg < n)
    {g : JFrame} (hg : g.method = m) {rest : List Value} (hs : g.stack = .long x :: .int j :: .ref a :: rest) (hd : decode c.code g.pc = .ok (.lastore, 1)) :
    ∃ T' h', Stand p l e R s m args below meth c T' (locs ++ [⟨a, j.toNatClampNeg⟩]) cells slots ∧ T'.heap = h' ∧ Wr h h' a j.toNatClampNeg (.long x) ∧ own_AJ Z h' a .long n (own_up f j.toNatClampNeg x) ∧ ∀ target, Steps p.tables e below (T'.setTop { g with pc := g.pc + 1, stack := rest }) target → Steps p.tables e below (T.setTop g) target := by
  have A2 := A
  obtain ⟨c', Ar, S, -, H⟩ := A
  obtain ⟨T', h', X', e', W, st⟩ := stJ X hx hZ eT Ar (j := j) (x := x) (own_inb S hj) hg hs hd
  exact ⟨T', h', X', e', W, A2.wr W, st⟩
end OwnArr
section OwnKitL
/-- from the state A the run comes to a state of which Post speaks -/
def own_Run (p : Program) (e : Env) (below : List Frame) (A : State) (Post : State → Prop) : Prop := ∃ B, Post B ∧ ∀ t, Steps p.tables e below B t → Steps p.tables e below A t
theorem own_run {p : Program} {e : Env} {below : List Frame} {A B : State} {Post : State → Prop} (h : ∀ t, Steps p.tables e below B t → Steps p.tables e below A t) (k : own_Run p e below B Post) : own_Run p e below A Post := by
  obtain ⟨C, h1, h2⟩ := k
  exact ⟨C, h1, fun t kt => h t (h2 t kt)⟩
end OwnKitL
def own_fnd (f : Nat → Int32) (t : Int32) : Nat → Int32 → Option Int32
  | 0, _ => none
  | k + 1, i => if f i.toNatClampNeg = (-1 : Int32) then some (-1 : Int32) else if f i.toNatClampNeg = t then some t else own_fnd f t k ((i + (1 : Int32)) &&& (31 : Int32))
def own_emp (f : Nat → Int32) : Nat → Int32 → Option Int32
  | 0, _ => none
  | k + 1, i => if f i.toNatClampNeg = (-1 : Int32) then some i else own_emp f k ((i + (1 : Int32)) &&& (31 : Int32))
def own_slt (f : Nat → Int32) (r : Int32) : Nat → Int32 → Option Int32
  | 0, _ => none
  | k + 1, i => if f i.toNatClampNeg = r then some i else own_slt f r k ((i + (1 : Int32)) &&& (31 : Int32))
def own_rms (H : Nat → Int32) : Nat → (Nat → Int32) → Int32 → Int32 → Option (Nat → Int32)
  | 0, _, _, _ => none
  | k + 1, f, g, i => if f i.toNatClampNeg = (-1 : Int32) then some (own_up f g.toNatClampNeg (-1 : Int32))
    else if ((i - H (f i.toNatClampNeg).toNatClampNeg) &&& (31 : Int32)) < ((i - g) &&& (31 : Int32)) then own_rms H k f g ((i + (1 : Int32)) &&& (31 : Int32))
    else own_rms H k (own_up f g.toNatClampNeg (f i.toNatClampNeg)) i ((i + (1 : Int32)) &&& (31 : Int32))
def own_home (t : Fin 4) : Int32 := (Int32.ofNat t.val + (30 : Int32)) &&& (31 : Int32)
def own_F0 : Nat → Int32 := fun _ => (-1 : Int32)
def own_E (f : Nat → Int32) (i : Int32) : Int32 := (own_emp f 8 i).getD 0
def own_F1 (a : Int32) : Nat → Int32 := own_up own_F0 (own_E own_F0 a).toNatClampNeg (0 : Int32)
def own_F2 (a b : Int32) : Nat → Int32 := own_up (own_F1 a) (own_E (own_F1 a) b).toNatClampNeg (1 : Int32)
def own_F3 (a b c : Int32) : Nat → Int32 := own_up (own_F2 a b) (own_E (own_F2 a b) c).toNatClampNeg (2 : Int32)
def own_HM (a b c : Int32) : Nat → Int32 := fun j => if j = 0 then a else if j = 1 then b else c
def own_RS (a b c r : Int32) : Int32 := (own_slt (own_F3 a b c) r 8 (own_HM a b c r.toNatClampNeg)).getD 0
def own_F4 (a b c r : Int32) : Nat → Int32 := (own_rms (own_HM a b c) 8 (own_F3 a b c) (own_RS a b c r) ((own_RS a b c r + (1 : Int32)) &&& (31 : Int32))).getD own_F0
def own_chk0 (a b c d : Int32) : Bool :=
  own_fnd own_F0 0 8 a == some (-1) && own_fnd (own_F1 a) 1 8 b == some (-1) && own_fnd (own_F2 a b) 2 8 c == some (-1)
  && (own_emp own_F0 8 a).isSome && (own_emp (own_F1 a) 8 b).isSome && (own_emp (own_F2 a b) 8 c).isSome
  && own_fnd (own_F3 a b c) 0 8 a == some 0 && own_fnd (own_F3 a b c) 1 8 b == some 1 && own_fnd (own_F3 a b c) 2 8 c == some 2
  && own_fnd (own_F3 a b c) 3 8 d == some (-1) && (own_emp (own_F3 a b c) 8 d).isSome
def own_chk1 (a b c d r : Int32) : Bool :=
  (own_slt (own_F3 a b c) r 8 (own_HM a b c r.toNatClampNeg)).isSome && (own_rms (own_HM a b c) 8 (own_F3 a b c) (own_RS a b c r) ((own_RS a b c r + (1 : Int32)) &&& (31 : Int32))).isSome
  && own_fnd (own_F4 a b c r) 0 8 a == some (if r = 0 then -1 else 0) && own_fnd (own_F4 a b c r) 1 8 b == some (if r = 1 then -1 else 1) && own_fnd (own_F4 a b c r) 2 8 c == some (if r = 2 then -1 else 2)
  && own_fnd (own_F4 a b c r) 3 8 d == some (-1) && (own_emp (own_F4 a b c r) 8 d).isSome
theorem own_fin0 : ∀ a b c d : Fin 4, own_chk0 (own_home a) (own_home b) (own_home c) (own_home d) = true := by decide +kernel
theorem own_fin1 : ∀ a b c d : Fin 4, ∀ r : Fin 3, own_chk1 (own_home a) (own_home b) (own_home c) (own_home d) (Int32.ofNat r.val) = true := by decide +kernel
theorem own_and31 (x : Int32) : ¬ (x &&& (31 : Int32)) < 0 ∧ (x &&& (31 : Int32)).toNatClampNeg < 32 := by
  have e : (x &&& (31 : Int32)).toBitVec.toNat = x.toBitVec.toNat % 2 ^ 5 := by
    rw [Int32.toBitVec_and, BitVec.toNat_and]; exact Nat.and_two_pow_sub_one_eq_mod _ 5
  have e2 : (x &&& (31 : Int32)).toInt = ((x.toBitVec.toNat % 2 ^ 5 : Nat) : Int) := by
    show BitVec.toInt _ = _
    rw [BitVec.toInt_eq_toNat_cond, e, if_pos (by omega)]
  refine ⟨?_, ?_⟩
  · rw [Int32.lt_iff_toInt_lt, show (0 : Int32).toInt = 0 from rfl]; omega
  · unfold Int32.toNatClampNeg; omega
theorem own_upS {α : Type} (f : Nat → α) (i : Nat) (v : α) : own_up f i v i = v := by unfold own_up; rw [if_pos rfl]
def own_V (n : Nat) (f : Nat → Int32) : Prop := ∀ j, j < 32 → f j = (-1 : Int32) ∨ ∃ a, a < n ∧ f j = Int32.ofNat a
theorem own_oN {a : Nat} (h : a < 4) : (Int32.ofNat a).toInt = a ∧ (Int32.ofNat a).toNatClampNeg = a ∧ ¬ (Int32.ofNat a) = (-1 : Int32) := by
  rcases a with _ | _ | _ | _ | a
  · decide
  · decide
  · decide
  · decide
  · omega
theorem own_Vin {n j : Nat} {f : Nat → Int32} (V : own_V n f) (hn : n ≤ 3) (hj : j < 32) (h : ¬ f j = (-1 : Int32)) : ¬ f j < 0 ∧ (f j).toNatClampNeg < 16 := by
  rcases V j hj with q | ⟨a, ha, q⟩
  · exact absurd q h
  · obtain ⟨e1, e2, -⟩ := own_oN (a := a) (by omega)
    rw [q]
    refine ⟨?_, by omega⟩
    rw [Int32.lt_iff_toInt_lt, show (0 : Int32).toInt = 0 from rfl]; omega
theorem own_Vup {n i a : Nat} {f : Nat → Int32} {v : Int32} (V : own_V n f) (ha : a < n) (hv : v = Int32.ofNat a) : own_V n (own_up f i v) := fun j hj => by
  unfold own_up
  by_cases q : j = i
  · rw [if_pos q]; exact Or.inr ⟨a, ha, hv⟩
  · rw [if_neg q]; exact V j hj
theorem own_Vup1 {n i : Nat} {f : Nat → Int32} (V : own_V n f) : own_V n (own_up f i (-1 : Int32)) := fun j hj => by
  unfold own_up
  by_cases q : j = i
  · rw [if_pos q]; exact Or.inl rfl
  · rw [if_neg q]; exact V j hj
theorem own_Vle {n m : Nat} {f : Nat → Int32} (V : own_V n f) (h : n ≤ m) : own_V m f := fun j hj => by
  rcases V j hj with q | ⟨a, ha, q⟩
  · exact Or.inl q
  · exact Or.inr ⟨a, Nat.lt_of_lt_of_le ha h, q⟩
def own_M (n : Nat) (g1 g2 : Nat → Int64) (t : Int32) (k1 k2 : Int64) : Prop := ∀ a, a < n → (Int32.ofNat a = t ↔ (g1 a = k1 ∧ g2 a = k2))
theorem own_Mat {n j : Nat} {f : Nat → Int32} {g1 g2 : Nat → Int64} {t v : Int32} {k1 k2 : Int64} (V : own_V n f) (M : own_M n g1 g2 t k1 k2) (hn : n ≤ 3) (hj : j < 32) (hv : v = f j) (h : ¬ f j = (-1 : Int32)) : v = t ↔ ((g1 v.toNatClampNeg) = k1 ∧ (g2 v.toNatClampNeg) = k2) := by
  rcases V j hj with q | ⟨a, ha, q⟩
  · exact absurd q h
  · obtain ⟨e1, e2, -⟩ := own_oN (a := a) (by omega)
    rw [hv, q, e2]; exact M a ha
theorem own_f1 {f : Nat → Int32} {t i y : Int32} {k : Nat} (hk : own_fnd f t (k + 1) i = some y) (h : f i.toNatClampNeg = (-1 : Int32)) : (-1 : Int32) = y := by
  rw [own_fnd, if_pos h] at hk; exact Option.some.inj hk
theorem own_f2 {f : Nat → Int32} {t i y v : Int32} {k : Nat} (hk : own_fnd f t (k + 1) i = some y) (hv : v = f i.toNatClampNeg) (h : ¬ f i.toNatClampNeg = (-1 : Int32)) (h2 : v = t) : v = y := by
  rw [own_fnd, if_neg h, if_pos (hv.symm.trans h2)] at hk; exact h2.trans (Option.some.inj hk)
theorem own_f3 {f : Nat → Int32} {t i y v : Int32} {k : Nat} (hk : own_fnd f t (k + 1) i = some y) (hv : v = f i.toNatClampNeg) (h : ¬ f i.toNatClampNeg = (-1 : Int32)) (h2 : ¬ v = t) : own_fnd f t k ((i + (1 : Int32)) &&& (31 : Int32)) = some y := by
  rw [own_fnd, if_neg h, if_neg (fun q => h2 (hv.trans q))] at hk; exact hk
theorem own_e1 {f : Nat → Int32} {i y : Int32} {k : Nat} (hk : own_emp f (k + 1) i = some y) (h : f i.toNatClampNeg = (-1 : Int32)) : i = y := by
  rw [own_emp, if_pos h] at hk; exact Option.some.inj hk
theorem own_e2 {f : Nat → Int32} {i y : Int32} {k : Nat} (hk : own_emp f (k + 1) i = some y) (h : ¬ f i.toNatClampNeg = (-1 : Int32)) : own_emp f k ((i + (1 : Int32)) &&& (31 : Int32)) = some y := by
  rw [own_emp, if_neg h] at hk; exact hk
theorem own_eB {f : Nat → Int32} {k : Nat} : ∀ {i y : Int32}, own_emp f k i = some y → (¬ i < 0 ∧ i.toNatClampNeg < 32) → (¬ y < 0 ∧ y.toNatClampNeg < 32) := by
  induction k with
  | zero => intro i y h; cases h
  | succ k ih =>
    intro i y h hi
    by_cases q : f i.toNatClampNeg = (-1 : Int32)
    · rw [← own_e1 h q]; exact hi
    · exact ih (own_e2 h q) (own_and31 _)
theorem own_s1 {f : Nat → Int32} {r i y : Int32} {k : Nat} (hk : own_slt f r (k + 1) i = some y) (h : f i.toNatClampNeg = r) : i = y := by
  rw [own_slt, if_pos h] at hk; exact Option.some.inj hk
theorem own_s2 {f : Nat → Int32} {r i y : Int32} {k : Nat} (hk : own_slt f r (k + 1) i = some y) (h : ¬ f i.toNatClampNeg = r) : own_slt f r k ((i + (1 : Int32)) &&& (31 : Int32)) = some y := by
  rw [own_slt, if_neg h] at hk; exact hk
theorem own_sB {f : Nat → Int32} {r : Int32} {k : Nat} : ∀ {i y : Int32}, own_slt f r k i = some y → (¬ i < 0 ∧ i.toNatClampNeg < 32) → (¬ y < 0 ∧ y.toNatClampNeg < 32) := by
  induction k with
  | zero => intro i y h; cases h
  | succ k ih =>
    intro i y h hi
    by_cases q : f i.toNatClampNeg = r
    · rw [← own_s1 h q]; exact hi
    · exact ih (own_s2 h q) (own_and31 _)
def own_HH (n : Nat) (g1 : Nat → Int64) (H : Nat → Int32) : Prop := ∀ a, a < n → (((g1 a).toInt32) &&& (31 : Int32)) = H a
theorem own_HHat {n j : Nat} {f H : Nat → Int32} {g1 : Nat → Int64} {v : Int32} {x : Int64} (V : own_V n f) (hH : own_HH n g1 H) (hn : n ≤ 3) (hj : j < 32) (hv : v = f j) (h : ¬ f j = (-1 : Int32)) (hx : x = (g1 v.toNatClampNeg)) : ((x.toInt32) &&& (31 : Int32)) = H (f j).toNatClampNeg := by
  rcases V j hj with q | ⟨a, ha, q⟩
  · exact absurd q h
  · obtain ⟨e1, e2, -⟩ := own_oN (a := a) (by omega)
    rw [hx, hv, q, e2]; exact hH a ha
theorem own_m1 {H f f' : Nat → Int32} {g i : Int32} {k : Nat} (hk : own_rms H (k + 1) f g i = some f') (h : f i.toNatClampNeg = (-1 : Int32)) : f' = own_up f g.toNatClampNeg (-1 : Int32) := by
  rw [own_rms, if_pos h] at hk; exact (Option.some.inj hk).symm
theorem own_m2 {H f f' : Nat → Int32} {g i a b z : Int32} {k : Nat} (hk : own_rms H (k + 1) f g i = some f') (h : ¬ f i.toNatClampNeg = (-1 : Int32)) (hz : z = H (f i.toNatClampNeg).toNatClampNeg) (ha : a = ((i - z) &&& (31 : Int32))) (hb : b = ((i - g) &&& (31 : Int32))) (hc : a < b) : own_rms H k f g ((i + (1 : Int32)) &&& (31 : Int32)) = some f' := by
  rw [own_rms, if_neg h, ← hz, ← ha, ← hb, if_pos hc] at hk; exact hk
theorem own_m3 {H f f' : Nat → Int32} {g i a b z : Int32} {k : Nat} (hk : own_rms H (k + 1) f g i = some f') (h : ¬ f i.toNatClampNeg = (-1 : Int32)) (hz : z = H (f i.toNatClampNeg).toNatClampNeg) (ha : a = ((i - z) &&& (31 : Int32))) (hb : b = ((i - g) &&& (31 : Int32))) (hc : ¬ a < b) : own_rms H k (own_up f g.toNatClampNeg (f i.toNatClampNeg)) i ((i + (1 : Int32)) &&& (31 : Int32)) = some f' := by
  rw [own_rms, if_neg h, ← hz, ← ha, ← hb, if_neg hc] at hk; exact hk
theorem own_Vmv {n i j : Nat} {f : Nat → Int32} {v : Int32} (V : own_V n f) (hj : j < 32) (hv : v = f j) (h : ¬ f j = (-1 : Int32)) : own_V n (own_up f i v) := by
  rcases V j hj with q | ⟨a, ha, q⟩
  · exact absurd q h
  · exact own_Vup V ha (hv.trans q)
theorem own_rmsV {n : Nat} {H : Nat → Int32} {k : Nat} : ∀ {f f' : Nat → Int32} {g i : Int32}, own_rms H k f g i = some f' → own_V n f → (¬ i < 0 ∧ i.toNatClampNeg < 32) → own_V n f' := by
  induction k with
  | zero => intro f f' g i h; cases h
  | succ k ih =>
    intro f f' g i h V hi
    by_cases q : f i.toNatClampNeg = (-1 : Int32)
    · rw [own_m1 h q]; exact own_Vup1 V
    · by_cases c : ((i - H (f i.toNatClampNeg).toNatClampNeg) &&& (31 : Int32)) < ((i - g) &&& (31 : Int32))
      · exact ih (own_m2 h q rfl rfl rfl c) V (own_and31 _)
      · exact ih (own_m3 h q rfl rfl rfl c) (own_Vmv V hi.2 rfl q) (own_and31 _)
theorem own_fi1 {i : Int32} (hi : 0 ≤ i.toInt ∧ i.toInt ≤ 32) (h : i < (32 : Int32)) : ¬ i < 0 ∧ i.toNatClampNeg < 32 := by
  rw [Int32.lt_iff_toInt_lt, show (32 : Int32).toInt = 32 from rfl] at h
  refine ⟨?_, ?_⟩
  · rw [Int32.lt_iff_toInt_lt, show (0 : Int32).toInt = 0 from rfl]; omega
  · unfold Int32.toNatClampNeg; omega
theorem own_fi2 {i i' p : Int32} {f f' : Nat → Int32} {k : Nat} (hi : 0 ≤ i.toInt ∧ i.toInt ≤ 32) (h : i < (32 : Int32)) (hf : ∀ j, j < i.toInt.toNat → f j = p) (hk : 33 ≤ i.toInt.toNat + (k + 1)) (e1 : i' = (i + (1 : Int32))) (e2 : f' = (own_up f (i.toNatClampNeg) p)) : (0 ≤ i'.toInt ∧ i'.toInt ≤ 32) ∧ (∀ j, j < i'.toInt.toNat → f' j = p) ∧ 33 ≤ i'.toInt.toNat + k := by
  rw [Int32.lt_iff_toInt_lt, show (32 : Int32).toInt = 32 from rfl] at h
  have e : i'.toInt = i.toInt + 1 := by
    rw [e1, Int32.toInt_add, show (1 : Int32).toInt = 1 from rfl, Int.bmod_eq_of_le (by omega) (by omega)]
  have c : i.toNatClampNeg = i.toInt.toNat := rfl
  refine ⟨by omega, fun j hj => ?_, by omega⟩
  rw [e2, own_up, c]
  by_cases q : j = i.toInt.toNat
  · rw [if_pos q]
  · rw [if_neg q]; exact hf j (by omega)
theorem own_fi3 {i p : Int32} {f : Nat → Int32} (hi : 0 ≤ i.toInt ∧ i.toInt ≤ 32) (h : ¬ i < (32 : Int32)) (hf : ∀ j, j < i.toInt.toNat → f j = p) : ∀ j, j < 32 → f j = p := fun j hj => by
  rw [Int32.lt_iff_toInt_lt, show (32 : Int32).toInt = 32 from rfl] at h
  exact hf j (by omega)
theorem own_Mk {n t : Nat} {g1 g2 : Nat → Int64} {tI : Int32} {k1 k2 : Int64} (hn : n ≤ 3) (ht : t < 4) (htI : tI = Int32.ofNat t) (hk2 : k2 = Int64.ofNat t) (hg : ∀ a, a < n → g2 a = Int64.ofNat a) (h1 : t < n → g1 t = k1) : own_M n g1 g2 tI k1 k2 := fun a ha => by
  have h64 : ∀ a b : Fin 4, Int64.ofNat a.val = Int64.ofNat b.val → a.val = b.val := by decide +kernel
  have h32 : ∀ a b : Fin 4, Int32.ofNat a.val = Int32.ofNat b.val → a.val = b.val := by decide +kernel
  constructor
  · intro q
    rw [htI] at q
    have e : a = t := h32 ⟨a, by omega⟩ ⟨t, ht⟩ q
    subst e
    exact ⟨h1 ha, by rw [hg a ha, hk2]⟩
  · rintro ⟨-, q⟩
    rw [hg a ha, hk2] at q
    have e : a = t := h64 ⟨a, by omega⟩ ⟨t, ht⟩ q
    rw [htI, e]
theorem own_hm {k x : Int64} {e s : Int32} (h : k = ((x &&& (-32 : Int64)) ||| ((((((e.toUInt32 >>> (s &&& 31).toUInt32).toInt32) &&& (3 : Int32)) + (30 : Int32)) &&& (31 : Int32)).toInt64))) : ∃ t : Fin 4, ((k.toInt32) &&& (31 : Int32)) = own_home t := by
  generalize ((e.toUInt32 >>> (s &&& 31).toUInt32).toInt32) = z at h
  have e1 : (z &&& (3 : Int32)).toBitVec.toNat = z.toBitVec.toNat % 2 ^ 2 := by
    rw [Int32.toBitVec_and, BitVec.toNat_and]; exact Nat.and_two_pow_sub_one_eq_mod _ 2
  have hz : (z &&& (3 : Int32)) = Int32.ofNat (z.toBitVec.toNat % 4) := by
    apply Int32.toBitVec_inj.mp
    apply BitVec.eq_of_toNat_eq
    rw [e1]
    have a : ∀ n : Fin 4, n.val = (Int32.ofNat n.val).toBitVec.toNat := by decide +kernel
    exact a ⟨z.toBitVec.toNat % 4, Nat.mod_lt _ (by decide)⟩
  refine ⟨⟨z.toBitVec.toNat % 4, Nat.mod_lt _ (by decide)⟩, ?_⟩
  rw [h, hz]
  have key : ∀ H : Int32, ((((x &&& (-32 : Int64)) ||| H.toInt64).toInt32) &&& (31 : Int32)) = (H &&& (31 : Int32)) := fun H => by
    apply Int32.toBitVec_inj.mp
    apply BitVec.eq_of_getLsbD_eq
    intro i hi
    show ((((x.toBitVec &&& (-32 : Int64).toBitVec) ||| H.toBitVec.signExtend 64).signExtend 32) &&& (31 : Int32).toBitVec).getLsbD i = (H.toBitVec &&& (31 : Int32).toBitVec).getLsbD i
    rw [BitVec.getLsbD_and, BitVec.getLsbD_and, BitVec.signExtend_eq_setWidth_of_le _ (by decide), BitVec.getLsbD_setWidth, BitVec.getLsbD_or, BitVec.getLsbD_and, BitVec.getLsbD_signExtend]
    have m : ∀ i : Fin 32, ((-32 : Int64).toBitVec.getLsbD i.val && (31 : Int32).toBitVec.getLsbD i.val) = false := by decide +kernel
    have mi := m ⟨i, hi⟩
    simp only at mi
    simp only [show i < 32 from hi, show i < 64 by omega, decide_true, Bool.true_and, if_true]
    cases c : (31 : Int32).toBitVec.getLsbD i
    · simp
    · rw [c, Bool.and_true] at mi
      rw [mi]; simp
  rw [key]
  have a : ∀ n : Fin 4, ((((Int32.ofNat n.val) + (30 : Int32)) &&& (31 : Int32)) &&& (31 : Int32)) = own_home n := by decide +kernel
  exact a ⟨z.toBitVec.toNat % 4, Nat.mod_lt _ (by decide)⟩
theorem own_c0 {a b c d : Int32} (h : own_chk0 a b c d = true) : (own_fnd own_F0 0 8 a = some (-1) ∧ own_fnd (own_F1 a) 1 8 b = some (-1) ∧ own_fnd (own_F2 a b) 2 8 c = some (-1))
    ∧ (own_emp own_F0 8 a = some (own_E own_F0 a) ∧ own_emp (own_F1 a) 8 b = some (own_E (own_F1 a) b) ∧ own_emp (own_F2 a b) 8 c = some (own_E (own_F2 a b) c))
    ∧ (own_fnd (own_F3 a b c) 0 8 a = some 0 ∧ own_fnd (own_F3 a b c) 1 8 b = some 1 ∧ own_fnd (own_F3 a b c) 2 8 c = some 2)
    ∧ own_fnd (own_F3 a b c) 3 8 d = some (-1) ∧ own_emp (own_F3 a b c) 8 d = some (own_E (own_F3 a b c) d) := by
  have g : ∀ {x : Option Int32}, x.isSome = true → x = some (x.getD 0) := fun {x} q => by cases x; cases q; rfl
  simp only [own_chk0, Bool.and_eq_true, beq_iff_eq] at h
  obtain ⟨⟨⟨⟨⟨⟨⟨⟨⟨⟨h1, h2⟩, h3⟩, h4⟩, h5⟩, h6⟩, h7⟩, h8⟩, h9⟩, h10⟩, h11⟩ := h
  exact ⟨⟨h1, h2, h3⟩, ⟨g h4, g h5, g h6⟩, ⟨h7, h8, h9⟩, h10, g h11⟩
theorem own_c1 {a b c d r : Int32} (h : own_chk1 a b c d r = true) : own_slt (own_F3 a b c) r 8 (own_HM a b c r.toNatClampNeg) = some (own_RS a b c r) ∧ own_rms (own_HM a b c) 8 (own_F3 a b c) (own_RS a b c r) ((own_RS a b c r + (1 : Int32)) &&& (31 : Int32)) = some (own_F4 a b c r)
    ∧ (own_fnd (own_F4 a b c r) 0 8 a = some (if r = (0 : Int32) then (-1 : Int32) else (0 : Int32)) ∧ own_fnd (own_F4 a b c r) 1 8 b = some (if r = (1 : Int32) then (-1 : Int32) else (1 : Int32)) ∧ own_fnd (own_F4 a b c r) 2 8 c = some (if r = (2 : Int32) then (-1 : Int32) else (2 : Int32)))
    ∧ own_fnd (own_F4 a b c r) 3 8 d = some (-1) ∧ own_emp (own_F4 a b c r) 8 d = some (own_E (own_F4 a b c r) d) := by
  have g : ∀ {x : Option Int32}, x.isSome = true → x = some (x.getD 0) := fun {x} q => by cases x; cases q; rfl
  have g2 : ∀ {x : Option (Nat → Int32)}, x.isSome = true → x = some (x.getD own_F0) := fun {x} q => by cases x; cases q; rfl
  simp only [own_chk1, Bool.and_eq_true, beq_iff_eq] at h
  obtain ⟨⟨⟨⟨⟨⟨h1, h2⟩, h3⟩, h4⟩, h5⟩, h6⟩, h7⟩ := h
  exact ⟨g h1, g2 h2, ⟨h3, h4, h5⟩, h6, g h7⟩
theorem own_r3 {r e : Int32} (h : r = ((((e.toUInt32 >>> ((8 : Int32) &&& 31).toUInt32).toInt32) &&& (3 : Int32)) % (3 : Int32))) : r = (0 : Int32) ∨ r = (1 : Int32) ∨ r = (2 : Int32) := by
  generalize ((e.toUInt32 >>> ((8 : Int32) &&& 31).toUInt32).toInt32) = z at h
  have e1 : (z &&& (3 : Int32)).toBitVec.toNat = z.toBitVec.toNat % 2 ^ 2 := by
    rw [Int32.toBitVec_and, BitVec.toNat_and]; exact Nat.and_two_pow_sub_one_eq_mod _ 2
  have hz : (z &&& (3 : Int32)) = Int32.ofNat (z.toBitVec.toNat % 4) := by
    apply Int32.toBitVec_inj.mp
    apply BitVec.eq_of_toNat_eq
    rw [e1]
    have a : ∀ n : Fin 4, n.val = (Int32.ofNat n.val).toBitVec.toNat := by decide +kernel
    exact a ⟨z.toBitVec.toNat % 4, Nat.mod_lt _ (by decide)⟩
  have a : ∀ n : Fin 4, (Int32.ofNat n.val) % (3 : Int32) = 0 ∨ (Int32.ofNat n.val) % (3 : Int32) = 1 ∨ (Int32.ofNat n.val) % (3 : Int32) = 2 := by decide +kernel
  rw [h, hz]
  exact a ⟨z.toBitVec.toNat % 4, Nat.mod_lt _ (by decide)⟩
theorem own_x4 {x e : Int32} (h : x = (((e.toUInt32 >>> ((10 : Int32) &&& 31).toUInt32).toInt32) &&& (3 : Int32))) (h0 : ¬ (x = (0 : Int32))) (h1 : ¬ (x = (1 : Int32))) (h2 : ¬ (x = (2 : Int32))) : x = (3 : Int32) := by
  generalize ((e.toUInt32 >>> ((10 : Int32) &&& 31).toUInt32).toInt32) = z at h
  have e1 : (z &&& (3 : Int32)).toBitVec.toNat = z.toBitVec.toNat % 2 ^ 2 := by
    rw [Int32.toBitVec_and, BitVec.toNat_and]; exact Nat.and_two_pow_sub_one_eq_mod _ 2
  have hz : (z &&& (3 : Int32)) = Int32.ofNat (z.toBitVec.toNat % 4) := by
    apply Int32.toBitVec_inj.mp
    apply BitVec.eq_of_toNat_eq
    rw [e1]
    have a : ∀ n : Fin 4, n.val = (Int32.ofNat n.val).toBitVec.toNat := by decide +kernel
    exact a ⟨z.toBitVec.toNat % 4, Nat.mod_lt _ (by decide)⟩
  have a : ∀ n : Fin 4, (Int32.ofNat n.val) = 0 ∨ (Int32.ofNat n.val) = 1 ∨ (Int32.ofNat n.val) = 2 ∨ (Int32.ofNat n.val) = 3 := by decide +kernel
  have q := a ⟨z.toBitVec.toNat % 4, Nat.mod_lt _ (by decide)⟩
  simp only at q
  rw [← hz, ← h] at q
  rcases q with q | q | q | q
  · exact absurd q h0
  · exact absurd q h1
  · exact absurd q h2
  · exact q
theorem own_V0 : own_V 0 own_F0 := fun j _ => Or.inl rfl
theorem own_V1 {a : Int32} : own_V 1 (own_F1 a) := own_Vup (a := 0) (own_Vle own_V0 (by decide)) (by decide) rfl
theorem own_V2 {a b : Int32} : own_V 2 (own_F2 a b) := own_Vup (a := 1) (own_Vle own_V1 (by decide)) (by decide) rfl
theorem own_V3 {a b c : Int32} : own_V 3 (own_F3 a b c) := own_Vup (a := 2) (own_Vle own_V2 (by decide)) (by decide) rfl
theorem own_fin2 {a b c d : Fin 4} {r : Int32} (h : r = (0 : Int32) ∨ r = (1 : Int32) ∨ r = (2 : Int32)) : own_chk1 (own_home a) (own_home b) (own_home c) (own_home d) r = true := by
  rcases h with rfl | rfl | rfl
  · exact own_fin1 a b c d 0
  · exact own_fin1 a b c d 1
  · exact own_fin1 a b c d 2
theorem own_Gs {n : Nat} {g g' : Nat → Int64} {u : Int32} {x : Int64} (hg : ∀ a, a < n → g a = Int64.ofNat a) (e : g' = (own_up g (u.toNatClampNeg) x)) (hu : u.toNatClampNeg = n) (hx : x = Int64.ofNat n) : ∀ a, a < n + 1 → g' a = Int64.ofNat a := fun a ha => by
  rw [e, own_up, hu]
  by_cases q : a = n
  · rw [if_pos q, hx, q]
  · rw [if_neg q]; exact hg a (by omega)
theorem own_HH3 {g : Nat → Int64} {k0 k1 k2 : Int64} (h0 : g 0 = k0) (h1 : g 1 = k1) (h2 : g 2 = k2) : own_HH 3 g (own_HM ((k0.toInt32) &&& (31 : Int32)) ((k1.toInt32) &&& (31 : Int32)) ((k2.toInt32) &&& (31 : Int32))) := fun a ha => by
  rcases a with _ | _ | _ | a
  · rw [h0]; rfl
  · rw [h1]; rfl
  · rw [h2]; rfl
  · omega
theorem own_rlt {r : Int32} (h : r = (0 : Int32) ∨ r = (1 : Int32) ∨ r = (2 : Int32)) : r.toNatClampNeg < 3 ∧ (¬ r < 0 ∧ r.toNatClampNeg < 16) ∧ ¬ ((3 : Int32) = r) := by
  rcases h with rfl | rfl | rfl <;> decide
theorem own_AIcongr {Z : State} {h : Heap} {a : Addr} {ty : FieldType} {n : Nat} {f g : Nat → Int32} (A : own_AI Z h a ty n f) (q : ∀ j, j < n → f j = g j) : own_AI Z h a ty n g := by
  obtain ⟨c, A1, S, b, H⟩ := A
  exact ⟨c, A1, S, b, fun j hj => by rw [← q j hj]; exact H j hj⟩
theorem d1_0 : decode method_3_code 0 = .ok (.iload_n 0, 1) := by decide +kernel
theorem d1_1 : decode method_3_code 1 = .ok (.iload_n 1, 1) := by decide +kernel
theorem d1_2 : decode method_3_code 2 = .ok (.iushr, 1) := by decide +kernel
theorem d1_3 : decode method_3_code 3 = .ok (.iconst 3, 1) := by decide +kernel
theorem d1_4 : decode method_3_code 4 = .ok (.iand, 1) := by decide +kernel
theorem d1_5 : decode method_3_code 5 = .ok (.bipush 30, 2) := by decide +kernel
theorem d1_7 : decode method_3_code 7 = .ok (.iadd, 1) := by decide +kernel
theorem d1_8 : decode method_3_code 8 = .ok (.bipush 31, 2) := by decide +kernel
theorem d1_10 : decode method_3_code 10 = .ok (.iand, 1) := by decide +kernel
theorem d1_11 : decode method_3_code 11 = .ok (.i2l, 1) := by decide +kernel
theorem d1_12 : decode method_3_code 12 = .ok (.lreturn, 1) := by decide +kernel
theorem ef_lh (m : MethodId) (p0 : Int32) (p1 : Int32) : entryFrame m #[(.int p0), (.int p1)] 2 = mkF m 0 #[.val (.int p0), .val (.int p1)] [] := by (first | (simp [entryFrame, mkF, argsToLocals, Value.category]; done) | rfl)
def own_rlh (p0 : Int32) (p1 : Int32) : Int64 := ((((((p0.toUInt32 >>> (p1 &&& 31).toUInt32).toInt32) &&& (3 : Int32)) + (30 : Int32)) &&& (31 : Int32)).toInt64)
theorem pn0 : plainName "com/example/upper_falls/upperfalls/HeldKeysReleasePinLaw" = true := by first | (simp [plainName, overriddenIn]; done) | decide +kernel
def Qlh (Z : State) (p0 : Int32) (p1 : Int32) (h0 : Heap) (n0 : Nat) (v : Option Value) (h : Heap) (L : List Loc) : Prop := v = some (.long (own_rlh p0 p1)) ∧ Fr n0 L ∧ h = h0
set_option maxRecDepth 65536 in
set_option maxHeartbeats 40000000 in
theorem rmlh (l : Launch) (Z : State) (a0 : Array Value) (hw : ∀ d ∈ tables_1, d.before a0 Z = true) (ws : List Jvm.Cond) (p0 : Int32) (p1 : Int32) (h0 : Heap) (n0 : Nat) (Z0 : n0 ≤ h0.size) :
    MetFree l (⟨"com/example/upper_falls/upperfalls/HeldKeysReleasePinLaw", "home", "(II)J"⟩ : MethodName) (head1 (Jvm.Cond.code (⟨"com/example/upper_falls/upperfalls/HeldKeysReleasePinLaw", "home", "(II)J"⟩ : MethodName) method_3_code 2 (some .long) :: ws) ({ frames := 0, cells := 0, slots := 0, locals := 0 } : Room)) (fun a U => a = #[(.int p0), (.int p1)] ∧ Z.Warmed39 U.vm ∧ U.heap = h0) (fun _ _ _ _ _ => True) (fun _ U o U' => ∃ v L, o = .returned v ∧ Qlh Z p0 p1 h0 n0 v U'.heap L ∧ FrameEnd U o U' L ({ frames := 0, cells := 0, slots := 0, locals := 0 } : Room).cells ({ frames := 0, cells := 0, slots := 0, locals := 0 } : Room).slots) := by
  refine MetFree.of_bodySF (plainFor_of_name pn0) hisR ?_
  intro p e s m args below meth c s₁ Bd hml0 hP hK
  obtain ⟨rfl, hZ, hh⟩ := hP
  have hx := Bd.exec
  have hby := Bd.bytes
  have hml : c.maxLocals = 2 := hml0
  have hown : s.vm.findClass "com/example/upper_falls/upperfalls/HeldKeysReleasePinLaw" = some m.cls := findClass_of_methodNamed Bd.named
  have hnm := (name_of_methodNamed Bd.named Bd.method).1
  have X0 : Stand p l e ({ frames := 0, cells := 0, slots := 0, locals := 0 } : Room) s m #[(.int p0), (.int p1)] below meth c s₁ [] 0 0 := Stand.of_body Bd
  have e0 : s₁.heap = h0 := by rw [← hh, Bd.state]; rfl
  have N0 := Fr.nil n0
  have K0 : Keep h0 h0 [] := Keep.refl h0 _
  show own_Go p e below s (Qlh Z p0 p1 h0 n0) ({ frames := 0, cells := 0, slots := 0, locals := 0 } : Room).cells ({ frames := 0, cells := 0, slots := 0, locals := 0 } : Room).slots (s₁.setTop (entryFrame m #[(.int p0), (.int p1)] 2))
  refine own_go (fun t k => castTop (ef_lh m p0 p1) k) ?_
  obtain ⟨v1, hv1⟩ : ∃ z : Int64, z = ((((((p0.toUInt32 >>> (p1 &&& 31).toUInt32).toInt32) &&& (3 : Int32)) + (30 : Int32)) &&& (31 : Int32)).toInt64) := ⟨_, rfl⟩
  have hgo101 : ∀ t, Steps p.tables e below (s₁.setTop (mkF m 12 #[.val (.int p0), .val (.int p1)] [(.long v1)])) t → Steps p.tables e below (s₁.setTop (mkF m 0 #[.val (.int p0), .val (.int p1)] [])) t := by
    intro t kt
    show Steps p.tables e below (s₁.setTop (mkF m 0 #[.val (.int p0), .val (.int p1)] [])) _
    refine XS.iloadN X0.here hx rfl (hb hby d1_0) rfl ?_
    refine XS.iloadN X0.here hx rfl (hb hby d1_1) rfl ?_
    refine XS.iushr X0.here hx rfl (hb hby d1_2) rfl ?_
    show Steps p.tables e below (s₁.setTop (mkF m 3 #[.val (.int p0), .val (.int p1)] [(.int ((p0.toUInt32 >>> (p1 &&& 31).toUInt32).toInt32))])) _
    refine XS.iconst X0.here hx rfl (hb hby d1_3) ?_
    refine XS.iand X0.here hx rfl (hb hby d1_4) rfl ?_
    show Steps p.tables e below (s₁.setTop (mkF m 5 #[.val (.int p0), .val (.int p1)] [(.int (((p0.toUInt32 >>> (p1 &&& 31).toUInt32).toInt32) &&& (3 : Int32)))])) _
    refine XS.bipush X0.here hx rfl (hb hby d1_5) ?_
    refine XS.iadd X0.here hx rfl (hb hby d1_7) rfl ?_
    show Steps p.tables e below (s₁.setTop (mkF m 8 #[.val (.int p0), .val (.int p1)] [(.int ((((p0.toUInt32 >>> (p1 &&& 31).toUInt32).toInt32) &&& (3 : Int32)) + (30 : Int32)))])) _
    refine XS.bipush X0.here hx rfl (hb hby d1_8) ?_
    refine XS.iand X0.here hx rfl (hb hby d1_10) rfl ?_
    show Steps p.tables e below (s₁.setTop (mkF m 11 #[.val (.int p0), .val (.int p1)] [(.int (((((p0.toUInt32 >>> (p1 &&& 31).toUInt32).toInt32) &&& (3 : Int32)) + (30 : Int32)) &&& (31 : Int32)))])) _
    refine XS.i2l X0.here hx rfl (hb hby d1_11) rfl ?_
    rw [← hv1]
    exact kt
  refine own_go hgo101 ?_
  exact own_retJ X0 hx Bd.returns Bd.notSynchronized (hb hby d1_12) (by decide) (by decide) (by rw [e0]; exact ⟨(by subst hv1; rw [own_rlh]), N0, rfl⟩)
theorem d3_0 : decode jdk_30_method_1_code 0 = .ok (.aload_n 0, 1) := by decide +kernel
theorem d3_1 : decode jdk_30_method_1_code 1 = .ok (.invokespecial 1, 3) := by decide +kernel
theorem d3_4 : decode jdk_30_method_1_code 4 = .ok (.return_, 1) := by decide +kernel
theorem ef_3 (m : MethodId) (r0 : Addr) : entryFrame m #[(.ref r0)] 1 = mkF m 0 #[.val (.ref r0)] [] := by (first | (simp [entryFrame, mkF, argsToLocals, Value.category]; done) | rfl)
theorem pn1 : plainName "java/lang/Record" = true := by first | (simp [plainName, overriddenIn]; done) | decide +kernel
def Q3 (Z : State) (r0 : Addr) (h0 : Heap) (n0 : Nat) (v : Option Value) (h : Heap) (L : List Loc) : Prop := v = none ∧ Fr n0 L ∧ h = h0
set_option maxRecDepth 65536 in
set_option maxHeartbeats 40000000 in
theorem rm3 (l : Launch) (Z : State) (a0 : Array Value) (hw : ∀ d ∈ tables_1, d.before a0 Z = true) (ws : List Jvm.Cond) (r0 : Addr) (h0 : Heap) (n0 : Nat) (Z0 : n0 ≤ h0.size) :
    MetFree l (⟨"java/lang/Record", "<init>", "()V"⟩ : MethodName) (head1 (Jvm.Cond.code (⟨"java/lang/Record", "<init>", "()V"⟩ : MethodName) jdk_30_method_1_code 1 none :: ws) ({ frames := 1, cells := 0, slots := 0, locals := 12 } : Room)) (fun a U => a = #[(.ref r0)] ∧ Z.Warmed39 U.vm ∧ U.heap = h0) (fun _ _ _ _ _ => True) (fun _ U o U' => ∃ v L, o = .returned v ∧ Q3 Z r0 h0 n0 v U'.heap L ∧ FrameEnd U o U' L ({ frames := 1, cells := 0, slots := 0, locals := 12 } : Room).cells ({ frames := 1, cells := 0, slots := 0, locals := 12 } : Room).slots) := by
  refine MetFree.of_bodySF (plainFor_of_name pn1) hisR ?_
  intro p e s m args below meth c s₁ Bd hml0 hP hK
  obtain ⟨rfl, hZ, hh⟩ := hP
  have hx := Bd.exec
  have hby := Bd.bytes
  have hml : c.maxLocals = 1 := hml0
  have hown : s.vm.findClass "java/lang/Record" = some m.cls := findClass_of_methodNamed Bd.named
  have hnm := (name_of_methodNamed Bd.named Bd.method).1
  have X0 : Stand p l e ({ frames := 1, cells := 0, slots := 0, locals := 12 } : Room) s m #[(.ref r0)] below meth c s₁ [] 0 0 := Stand.of_body Bd
  have e0 : s₁.heap = h0 := by rw [← hh, Bd.state]; rfl
  have N0 := Fr.nil n0
  have K0 : Keep h0 h0 [] := Keep.refl h0 _
  show own_Go p e below s (Q3 Z r0 h0 n0) ({ frames := 1, cells := 0, slots := 0, locals := 12 } : Room).cells ({ frames := 1, cells := 0, slots := 0, locals := 12 } : Room).slots (s₁.setTop (entryFrame m #[(.ref r0)] 1))
  refine own_go (fun t k => castTop (ef_3 m r0) k) ?_
  obtain ⟨T101, X101, e101, st101⟩ := initO X0 hx hZ hown (own_wd hw 16 rfl) (own_wd hw 17 rfl) (own_wd hw 18 rfl) e0 (g := (mkF m 1 #[.val (.ref r0)] [(.ref r0)])) rfl (by rw [hml]; rfl) rfl (hb hby d3_1) (by decide) (W := 0) (by show 2 * 0 + _ ≤ _; exact Nat.le_of_eq rfl) (by decide)
  have hgo102 : ∀ t, Steps p.tables e below (T101.setTop (mkF m 4 #[.val (.ref r0)] [])) t → Steps p.tables e below (s₁.setTop (mkF m 0 #[.val (.ref r0)] [])) t := by
    intro t kt
    show Steps p.tables e below (s₁.setTop (mkF m 0 #[.val (.ref r0)] [])) _
    refine XS.aloadN X0.here hx rfl (hb hby d3_0) rfl rfl ?_
    show Steps p.tables e below (s₁.setTop (mkF m 1 #[.val (.ref r0)] [(.ref r0)])) _
    refine st101 _ ?_
    exact kt
  refine own_go hgo102 ?_
  exact own_retV X101 hx Bd.returns Bd.notSynchronized (hb hby d3_4) (by decide) (by decide) (by rw [e101]; exact ⟨(by rfl), N0, rfl⟩)
theorem pd2 : parseMethodDescriptor "()V" = some ⟨[], none⟩ := by decide +kernel
theorem d2_0 : decode prog_15_method_1_code 0 = .ok (.aload_n 0, 1) := by decide +kernel
theorem d2_1 : decode prog_15_method_1_code 1 = .ok (.invokespecial 1, 3) := by decide +kernel
theorem d2_4 : decode prog_15_method_1_code 4 = .ok (.aload_n 0, 1) := by decide +kernel
theorem d2_5 : decode prog_15_method_1_code 5 = .ok (.lload_n 1, 1) := by decide +kernel
theorem d2_6 : decode prog_15_method_1_code 6 = .ok (.putfield 7, 3) := by decide +kernel
theorem d2_9 : decode prog_15_method_1_code 9 = .ok (.aload_n 0, 1) := by decide +kernel
theorem d2_10 : decode prog_15_method_1_code 10 = .ok (.lload_n 3, 1) := by decide +kernel
theorem d2_11 : decode prog_15_method_1_code 11 = .ok (.putfield 13, 3) := by decide +kernel
theorem d2_14 : decode prog_15_method_1_code 14 = .ok (.return_, 1) := by decide +kernel
theorem ef_2 (m : MethodId) (r0 : Addr) (q1 : Int64) (q2 : Int64) : entryFrame m #[(.ref r0), (.long q1), (.long q2)] 5 = mkF m 0 #[.val (.ref r0), .val (.long q1), .second, .val (.long q2), .second] [] := by (first | (simp [entryFrame, mkF, argsToLocals, Value.category]; done) | rfl)
theorem pn3 : plainName "com/example/upper_falls/upperfalls/KeyHash" = true := by first | (simp [plainName, overriddenIn]; done) | decide +kernel
def Q2 (Z : State) (r0 : Addr) (q1 : Int64) (q2 : Int64) (w3 : Int64) (w4 : Int64) (h0 : Heap) (n0 : Nat) (v : Option Value) (h : Heap) (L : List Loc) : Prop := v = none ∧ Fr n0 L ∧ Keep h0 h [r0] ∧ Exa Z h r0 "com/example/upper_falls/upperfalls/KeyHash" ∧ Fld Z h r0 "com/example/upper_falls/upperfalls/KeyHash" "h1" "J" (.long q1) ∧ Fld Z h r0 "com/example/upper_falls/upperfalls/KeyHash" "h2" "J" (.long q2)
set_option maxRecDepth 65536 in
set_option maxHeartbeats 40000000 in
theorem rm2 (l : Launch) (Z : State) (a0 : Array Value) (hw : ∀ d ∈ tables_1, d.before a0 Z = true) (ws : List Jvm.Cond) (r0 : Addr) (q1 : Int64) (q2 : Int64) (w3 : Int64) (w4 : Int64) (h0 : Heap) (n0 : Nat) (Z0 : n0 ≤ h0.size) (E_r0 : Exa Z h0 r0 "com/example/upper_falls/upperfalls/KeyHash") (F_h1_r0 : Fld Z h0 r0 "com/example/upper_falls/upperfalls/KeyHash" "h1" "J" (.long w3)) (F_h2_r0 : Fld Z h0 r0 "com/example/upper_falls/upperfalls/KeyHash" "h2" "J" (.long w4)) (g_r0 : n0 ≤ r0) :
    MetFree l (⟨"com/example/upper_falls/upperfalls/KeyHash", "<init>", "(JJ)V"⟩ : MethodName) (head1 (Jvm.Cond.code (⟨"com/example/upper_falls/upperfalls/KeyHash", "<init>", "(JJ)V"⟩ : MethodName) prog_15_method_1_code 5 none :: ws) ({ frames := 2, cells := 0, slots := 0, locals := 24 } : Room)) (fun a U => a = #[(.ref r0), (.long q1), (.long q2)] ∧ Z.Warmed39 U.vm ∧ U.heap = h0) (fun _ _ _ _ _ => True) (fun _ U o U' => ∃ v L, o = .returned v ∧ Q2 Z r0 q1 q2 w3 w4 h0 n0 v U'.heap L ∧ FrameEnd U o U' L ({ frames := 2, cells := 0, slots := 0, locals := 24 } : Room).cells ({ frames := 2, cells := 0, slots := 0, locals := 24 } : Room).slots) := by
  refine MetFree.of_bodySF (plainFor_of_name pn3) hisR ?_
  intro p e s m args below meth c s₁ Bd hml0 hP hK
  obtain ⟨rfl, hZ, hh⟩ := hP
  have hx := Bd.exec
  have hby := Bd.bytes
  have hml : c.maxLocals = 5 := hml0
  have hown : s.vm.findClass "com/example/upper_falls/upperfalls/KeyHash" = some m.cls := findClass_of_methodNamed Bd.named
  have hnm := (name_of_methodNamed Bd.named Bd.method).1
  have X0 : Stand p l e ({ frames := 2, cells := 0, slots := 0, locals := 24 } : Room) s m #[(.ref r0), (.long q1), (.long q2)] below meth c s₁ [] 0 0 := Stand.of_body Bd
  have e0 : s₁.heap = h0 := by rw [← hh, Bd.state]; rfl
  have N0 := Fr.nil n0
  have K0 : Keep h0 h0 [r0] := Keep.refl h0 _
  show own_Go p e below s (Q2 Z r0 q1 q2 w3 w4 h0 n0) ({ frames := 2, cells := 0, slots := 0, locals := 24 } : Room).cells ({ frames := 2, cells := 0, slots := 0, locals := 24 } : Room).slots (s₁.setTop (entryFrame m #[(.ref r0), (.long q1), (.long q2)] 5))
  refine own_go (fun t k => castTop (ef_2 m r0 q1 q2) k) ?_
  obtain ⟨_, _, ⟨T101, L101, k101, n101⟩, -, X101, ⟨Lc101, hQ101, l101, y101, z101⟩, st101⟩ := X0.specialBack hx (y := (⟨"java/lang/Record", "<init>", "()V"⟩ : MethodName)) rfl hown (mvT hZ (own_wd hw 11 rfl)) (mvT hZ (own_wd hw 12 rfl)) (mvT hZ (own_wd hw 15 rfl)) (by decide) (backOf (W := 0) (rm3 l Z a0 hw [] r0 h0 n0 Z0 ) hZ (own_wd hw 15 rfl) (own_wd hw 14 rfl) (by decide) (by decide)) (g := (mkF m 1 #[.val (.ref r0), .val (.long q1), .second, .val (.long q2), .second] [(.ref r0)])) rfl (by rw [hml]; rfl) (Steps.refl _) (a := r0) (argsL := []) (rest := []) (lenOf pd2 rfl) rfl (by show 2 * 0 + _ ≤ _; exact Nat.le_of_eq rfl) (hb hby d2_1) (fun _ _ => ⟨rfl, e0, (by decide : 0 + 0 ≤ _), (by decide : 0 + 0 ≤ _)⟩)
  dsimp only [Pt.U, Pt.locs, Pt.cells, Pt.slots] at X101 l101 y101 z101 st101 hQ101
  subst l101 y101 z101
  obtain ⟨rfl, N101q, e101⟩ := hQ101
  have N101 := Fr.app N0 N101q
  obtain ⟨T102, h102, X102, e102, W102, st102⟩ := putF X101 hx hZ hown (host := "") (Or.inl (own_wd hw 19 rfl)) Via.refl e101 F_h1_r0 E_r0 (Or.inr ⟨(own_wd hw 20 rfl), rfl, hnm⟩) (own_wd hw 1 rfl) (ty := .long) (by decide) rfl rfl (g := (mkF m 6 #[.val (.ref r0), .val (.long q1), .second, .val (.long q2), .second] [(.long q1), (.ref r0)])) rfl rfl (hb hby d2_6)
  have F103 := E_r0.wr W102
  have F104 := F_h1_r0.same W102
  have F105 := F_h2_r0.other W102 (Or.inr (slot_ne (Or.inr (own_wd hw 22 rfl)) (Or.inr (own_wd hw 20 rfl)) (by decide) (t := .long) (t' := .long) (by decide) (by decide)))
  have Z106 : n0 ≤ h102.size := Nat.le_trans Z0 (Keep.of_wr W102).1
  have K107 : Keep h0 h102 [r0] := K0.wr W102 (Or.inl (List.mem_of_getElem? (i := 0) rfl))
  have N108 := Fr.snoc X102 N101 g_r0
  obtain ⟨T109, h109, X109, e109, W109, st109⟩ := putF X102 hx hZ hown (host := "") (Or.inl (own_wd hw 21 rfl)) Via.refl e102 F105 F103 (Or.inr ⟨(own_wd hw 22 rfl), rfl, hnm⟩) (own_wd hw 1 rfl) (ty := .long) (by decide) rfl rfl (g := (mkF m 11 #[.val (.ref r0), .val (.long q1), .second, .val (.long q2), .second] [(.long q2), (.ref r0)])) rfl rfl (hb hby d2_11)
  have F110 := F103.wr W109
  have F111 := F104.other W109 (Or.inr (slot_ne (Or.inr (own_wd hw 20 rfl)) (Or.inr (own_wd hw 22 rfl)) (by decide) (t := .long) (t' := .long) (by decide) (by decide)))
  have F112 := F105.same W109
  have Z113 : n0 ≤ h109.size := Nat.le_trans Z106 (Keep.of_wr W109).1
  have K114 : Keep h0 h109 [r0] := K107.wr W109 (Or.inl (List.mem_of_getElem? (i := 0) rfl))
  have N115 := Fr.snoc X109 N108 g_r0
  have hgo116 : ∀ t, Steps p.tables e below (T109.setTop (mkF m 14 #[.val (.ref r0), .val (.long q1), .second, .val (.long q2), .second] [])) t → Steps p.tables e below (s₁.setTop (mkF m 0 #[.val (.ref r0), .val (.long q1), .second, .val (.long q2), .second] [])) t := by
    intro t kt
    show Steps p.tables e below (s₁.setTop (mkF m 0 #[.val (.ref r0), .val (.long q1), .second, .val (.long q2), .second] [])) _
    refine XS.aloadN X0.here hx rfl (hb hby d2_0) rfl rfl ?_
    show Steps p.tables e below (s₁.setTop (mkF m 1 #[.val (.ref r0), .val (.long q1), .second, .val (.long q2), .second] [(.ref r0)])) _
    refine st101.trans ?_
    show Steps p.tables e below (T101.setTop (mkF m 4 #[.val (.ref r0), .val (.long q1), .second, .val (.long q2), .second] [])) _
    refine XS.aloadN X101.here hx rfl (hb hby d2_4) rfl rfl ?_
    refine XS.lloadN X101.here hx rfl (hb hby d2_5) rfl ?_
    show Steps p.tables e below (T101.setTop (mkF m 6 #[.val (.ref r0), .val (.long q1), .second, .val (.long q2), .second] [(.long q1), (.ref r0)])) _
    refine st102 _ ?_
    show Steps p.tables e below (T102.setTop (mkF m 9 #[.val (.ref r0), .val (.long q1), .second, .val (.long q2), .second] [])) _
    refine XS.aloadN X102.here hx rfl (hb hby d2_9) rfl rfl ?_
    refine XS.lloadN X102.here hx rfl (hb hby d2_10) rfl ?_
    show Steps p.tables e below (T102.setTop (mkF m 11 #[.val (.ref r0), .val (.long q1), .second, .val (.long q2), .second] [(.long q2), (.ref r0)])) _
    refine st109 _ ?_
    exact kt
  refine own_go hgo116 ?_
  exact own_retV X109 hx Bd.returns Bd.notSynchronized (hb hby d2_14) (by decide) (by decide) (by rw [e109]; exact ⟨(by rfl), N115, K114, F110, (by exact F111), (by exact F112)⟩)
theorem d6_0 : decode jdk_29_method_69_code 0 = .ok (.iload_n 0, 1) := by decide +kernel
theorem d6_1 : decode jdk_29_method_69_code 1 = .ok (.iload_n 1, 1) := by decide +kernel
theorem d6_2 : decode jdk_29_method_69_code 2 = .ok (.if_icmp .gt 7, 3) := by decide +kernel
theorem d6_5 : decode jdk_29_method_69_code 5 = .ok (.iload_n 0, 1) := by decide +kernel
theorem d6_6 : decode jdk_29_method_69_code 6 = .ok (.goto 4, 3) := by decide +kernel
theorem d6_10 : decode jdk_29_method_69_code 10 = .ok (.ireturn, 1) := by decide +kernel
theorem ef_mn (m : MethodId) (p0 : Int32) (p1 : Int32) : entryFrame m #[(.int p0), (.int p1)] 2 = mkF m 0 #[.val (.int p0), .val (.int p1)] [] := by (first | (simp [entryFrame, mkF, argsToLocals, Value.category]; done) | rfl)
def Qmn (Z : State) (p0 : Int32) (p1 : Int32) (h0 : Heap) (n0 : Nat) (v : Option Value) (h : Heap) (L : List Loc) : Prop := v = some (.int (16 : Int32)) ∧ Fr n0 L ∧ h = h0
set_option maxRecDepth 65536 in
set_option maxHeartbeats 40000000 in
theorem rmmn (l : Launch) (Z : State) (a0 : Array Value) (hw : ∀ d ∈ tables_1, d.before a0 Z = true) (ws : List Jvm.Cond) (p0 : Int32) (p1 : Int32) (h0 : Heap) (n0 : Nat) (Z0 : n0 ≤ h0.size) (ha : p0 = (16 : Int32)) (hc : p1 = (16 : Int32)) :
    MetFree l (⟨"java/lang/Math", "min", "(II)I"⟩ : MethodName) (head1 (Jvm.Cond.code (⟨"java/lang/Math", "min", "(II)I"⟩ : MethodName) jdk_29_method_69_code 2 (some .int) :: ws) ({ frames := 0, cells := 0, slots := 0, locals := 0 } : Room)) (fun a U => a = #[(.int p0), (.int p1)] ∧ Z.Warmed39 U.vm ∧ U.heap = h0) (fun _ _ _ _ _ => True) (fun _ U o U' => ∃ v L, o = .returned v ∧ Qmn Z p0 p1 h0 n0 v U'.heap L ∧ FrameEnd U o U' L ({ frames := 0, cells := 0, slots := 0, locals := 0 } : Room).cells ({ frames := 0, cells := 0, slots := 0, locals := 0 } : Room).slots) := by
  refine MetFree.of_bodySF (Jvm.Free.JP.mathPlain rfl (by decide +kernel)) hisR ?_
  intro p e s m args below meth c s₁ Bd hml0 hP hK
  obtain ⟨rfl, hZ, hh⟩ := hP
  have hx := Bd.exec
  have hby := Bd.bytes
  have hml : c.maxLocals = 2 := hml0
  have hown : s.vm.findClass "java/lang/Math" = some m.cls := findClass_of_methodNamed Bd.named
  have hnm := (name_of_methodNamed Bd.named Bd.method).1
  have X0 : Stand p l e ({ frames := 0, cells := 0, slots := 0, locals := 0 } : Room) s m #[(.int p0), (.int p1)] below meth c s₁ [] 0 0 := Stand.of_body Bd
  have e0 : s₁.heap = h0 := by rw [← hh, Bd.state]; rfl
  have N0 := Fr.nil n0
  have K0 : Keep h0 h0 [] := Keep.refl h0 _
  show own_Go p e below s (Qmn Z p0 p1 h0 n0) ({ frames := 0, cells := 0, slots := 0, locals := 0 } : Room).cells ({ frames := 0, cells := 0, slots := 0, locals := 0 } : Room).slots (s₁.setTop (entryFrame m #[(.int p0), (.int p1)] 2))
  refine own_go (fun t k => castTop (ef_mn m p0 p1) k) ?_
  have hgo101 : ∀ t, Steps p.tables e below (s₁.setTop (mkF m 10 #[.val (.int (16 : Int32)), .val (.int (16 : Int32))] [(.int (16 : Int32))])) t → Steps p.tables e below (s₁.setTop (mkF m 0 #[.val (.int p0), .val (.int p1)] [])) t := by
    intro t kt
    show Steps p.tables e below (s₁.setTop (mkF m 0 #[.val (.int p0), .val (.int p1)] [])) _
    rw [ha]
    show Steps p.tables e below (s₁.setTop (mkF m 0 #[.val (.int (16 : Int32)), .val (.int p1)] [])) _
    rw [hc]
    show Steps p.tables e below (s₁.setTop (mkF m 0 #[.val (.int (16 : Int32)), .val (.int (16 : Int32))] [])) _
    refine XS.iloadN X0.here hx rfl (hb hby d6_0) rfl ?_
    refine XS.iloadN X0.here hx rfl (hb hby d6_1) rfl ?_
    refine XS.icmpNo X0.here hx rfl (hb hby d6_2) rfl (flt (by decide : ¬ ((16 : Int32) < (16 : Int32)))).2.2.1 ?_
    show Steps p.tables e below (s₁.setTop (mkF m 5 #[.val (.int (16 : Int32)), .val (.int (16 : Int32))] [])) _
    refine XS.iloadN X0.here hx rfl (hb hby d6_5) rfl ?_
    refine XS.goto X0.here hx rfl (pc0 := 6) (pc' := 10) rfl (hb hby d6_6) (by decide) (by decide) ?_
    exact kt
  refine own_go hgo101 ?_
  exact own_retI X0 hx Bd.returns Bd.notSynchronized (hb hby d6_10) (by decide) (by decide) (by rw [e0]; exact ⟨(by rfl), N0, rfl⟩)
theorem d8_0 : decode jdk_29_method_65_code 0 = .ok (.iload_n 0, 1) := by decide +kernel
theorem d8_1 : decode jdk_29_method_65_code 1 = .ok (.iload_n 1, 1) := by decide +kernel
theorem d8_2 : decode jdk_29_method_65_code 2 = .ok (.if_icmp .lt 7, 3) := by decide +kernel
theorem d8_5 : decode jdk_29_method_65_code 5 = .ok (.iload_n 0, 1) := by decide +kernel
theorem d8_6 : decode jdk_29_method_65_code 6 = .ok (.goto 4, 3) := by decide +kernel
theorem d8_10 : decode jdk_29_method_65_code 10 = .ok (.ireturn, 1) := by decide +kernel
theorem ef_mx (m : MethodId) (p0 : Int32) (p1 : Int32) : entryFrame m #[(.int p0), (.int p1)] 2 = mkF m 0 #[.val (.int p0), .val (.int p1)] [] := by (first | (simp [entryFrame, mkF, argsToLocals, Value.category]; done) | rfl)
def Qmx (Z : State) (p0 : Int32) (p1 : Int32) (h0 : Heap) (n0 : Nat) (v : Option Value) (h : Heap) (L : List Loc) : Prop := v = some (.int (16 : Int32)) ∧ Fr n0 L ∧ h = h0
set_option maxRecDepth 65536 in
set_option maxHeartbeats 40000000 in
theorem rmmx (l : Launch) (Z : State) (a0 : Array Value) (hw : ∀ d ∈ tables_1, d.before a0 Z = true) (ws : List Jvm.Cond) (p0 : Int32) (p1 : Int32) (h0 : Heap) (n0 : Nat) (Z0 : n0 ≤ h0.size) (ha : p0 = (16 : Int32)) (hc : p1 = (2 : Int32)) :
    MetFree l (⟨"java/lang/Math", "max", "(II)I"⟩ : MethodName) (head1 (Jvm.Cond.code (⟨"java/lang/Math", "max", "(II)I"⟩ : MethodName) jdk_29_method_65_code 2 (some .int) :: ws) ({ frames := 0, cells := 0, slots := 0, locals := 0 } : Room)) (fun a U => a = #[(.int p0), (.int p1)] ∧ Z.Warmed39 U.vm ∧ U.heap = h0) (fun _ _ _ _ _ => True) (fun _ U o U' => ∃ v L, o = .returned v ∧ Qmx Z p0 p1 h0 n0 v U'.heap L ∧ FrameEnd U o U' L ({ frames := 0, cells := 0, slots := 0, locals := 0 } : Room).cells ({ frames := 0, cells := 0, slots := 0, locals := 0 } : Room).slots) := by
  refine MetFree.of_bodySF (Jvm.Free.JP.mathPlain rfl (by decide +kernel)) hisR ?_
  intro p e s m args below meth c s₁ Bd hml0 hP hK
  obtain ⟨rfl, hZ, hh⟩ := hP
  have hx := Bd.exec
  have hby := Bd.bytes
  have hml : c.maxLocals = 2 := hml0
  have hown : s.vm.findClass "java/lang/Math" = some m.cls := findClass_of_methodNamed Bd.named
  have hnm := (name_of_methodNamed Bd.named Bd.method).1
  have X0 : Stand p l e ({ frames := 0, cells := 0, slots := 0, locals := 0 } : Room) s m #[(.int p0), (.int p1)] below meth c s₁ [] 0 0 := Stand.of_body Bd
  have e0 : s₁.heap = h0 := by rw [← hh, Bd.state]; rfl
  have N0 := Fr.nil n0
  have K0 : Keep h0 h0 [] := Keep.refl h0 _
  show own_Go p e below s (Qmx Z p0 p1 h0 n0) ({ frames := 0, cells := 0, slots := 0, locals := 0 } : Room).cells ({ frames := 0, cells := 0, slots := 0, locals := 0 } : Room).slots (s₁.setTop (entryFrame m #[(.int p0), (.int p1)] 2))
  refine own_go (fun t k => castTop (ef_mx m p0 p1) k) ?_
  have hgo101 : ∀ t, Steps p.tables e below (s₁.setTop (mkF m 10 #[.val (.int (16 : Int32)), .val (.int (2 : Int32))] [(.int (16 : Int32))])) t → Steps p.tables e below (s₁.setTop (mkF m 0 #[.val (.int p0), .val (.int p1)] [])) t := by
    intro t kt
    show Steps p.tables e below (s₁.setTop (mkF m 0 #[.val (.int p0), .val (.int p1)] [])) _
    rw [ha]
    show Steps p.tables e below (s₁.setTop (mkF m 0 #[.val (.int (16 : Int32)), .val (.int p1)] [])) _
    rw [hc]
    show Steps p.tables e below (s₁.setTop (mkF m 0 #[.val (.int (16 : Int32)), .val (.int (2 : Int32))] [])) _
    refine XS.iloadN X0.here hx rfl (hb hby d8_0) rfl ?_
    refine XS.iloadN X0.here hx rfl (hb hby d8_1) rfl ?_
    refine XS.icmpNo X0.here hx rfl (hb hby d8_2) rfl (flt (by decide : ¬ ((16 : Int32) < (2 : Int32)))).1 ?_
    show Steps p.tables e below (s₁.setTop (mkF m 5 #[.val (.int (16 : Int32)), .val (.int (2 : Int32))] [])) _
    refine XS.iloadN X0.here hx rfl (hb hby d8_5) rfl ?_
    refine XS.goto X0.here hx rfl (pc0 := 6) (pc' := 10) rfl (hb hby d8_6) (by decide) (by decide) ?_
    exact kt
  refine own_go hgo101 ?_
  exact own_retI X0 hx Bd.returns Bd.notSynchronized (hb hby d8_10) (by decide) (by decide) (by rw [e0]; exact ⟨(by rfl), N0, rfl⟩)
theorem d10_0 : decode jdk_33_method_47_code 0 = .ok (.iload_n 0, 1) := by decide +kernel
theorem d10_1 : decode jdk_33_method_47_code 1 = .ok (.ifCond .gt 14, 3) := by decide +kernel
theorem d10_15 : decode jdk_33_method_47_code 15 = .ok (.bipush 31, 2) := by decide +kernel
theorem d10_17 : decode jdk_33_method_47_code 17 = .ok (.istore_n 1, 1) := by decide +kernel
theorem d10_18 : decode jdk_33_method_47_code 18 = .ok (.iload_n 0, 1) := by decide +kernel
theorem d10_19 : decode jdk_33_method_47_code 19 = .ok (.ldc_w 264, 3) := by decide +kernel
theorem d10_22 : decode jdk_33_method_47_code 22 = .ok (.if_icmp .lt 11, 3) := by decide +kernel
theorem d10_33 : decode jdk_33_method_47_code 33 = .ok (.iload_n 0, 1) := by decide +kernel
theorem d10_34 : decode jdk_33_method_47_code 34 = .ok (.sipush 256, 3) := by decide +kernel
theorem d10_37 : decode jdk_33_method_47_code 37 = .ok (.if_icmp .lt 11, 3) := by decide +kernel
theorem d10_48 : decode jdk_33_method_47_code 48 = .ok (.iload_n 0, 1) := by decide +kernel
theorem d10_49 : decode jdk_33_method_47_code 49 = .ok (.bipush 16, 2) := by decide +kernel
theorem d10_51 : decode jdk_33_method_47_code 51 = .ok (.if_icmp .lt 10, 3) := by decide +kernel
theorem d10_61 : decode jdk_33_method_47_code 61 = .ok (.iload_n 0, 1) := by decide +kernel
theorem d10_62 : decode jdk_33_method_47_code 62 = .ok (.iconst 4, 1) := by decide +kernel
theorem d10_63 : decode jdk_33_method_47_code 63 = .ok (.if_icmp .lt 10, 3) := by decide +kernel
theorem d10_66 : decode jdk_33_method_47_code 66 = .ok (.iinc 1 (-2), 3) := by decide +kernel
theorem d10_69 : decode jdk_33_method_47_code 69 = .ok (.iload_n 0, 1) := by decide +kernel
theorem d10_70 : decode jdk_33_method_47_code 70 = .ok (.iconst 2, 1) := by decide +kernel
theorem d10_71 : decode jdk_33_method_47_code 71 = .ok (.iushr, 1) := by decide +kernel
theorem d10_72 : decode jdk_33_method_47_code 72 = .ok (.istore_n 0, 1) := by decide +kernel
theorem d10_73 : decode jdk_33_method_47_code 73 = .ok (.iload_n 1, 1) := by decide +kernel
theorem d10_74 : decode jdk_33_method_47_code 74 = .ok (.iload_n 0, 1) := by decide +kernel
theorem d10_75 : decode jdk_33_method_47_code 75 = .ok (.iconst 1, 1) := by decide +kernel
theorem d10_76 : decode jdk_33_method_47_code 76 = .ok (.iushr, 1) := by decide +kernel
theorem d10_77 : decode jdk_33_method_47_code 77 = .ok (.isub, 1) := by decide +kernel
theorem d10_78 : decode jdk_33_method_47_code 78 = .ok (.ireturn, 1) := by decide +kernel
theorem ef_nz (m : MethodId) (p0 : Int32) : entryFrame m #[(.int p0)] 2 = mkF m 0 #[.val (.int p0), .unset] [] := by (first | (simp [entryFrame, mkF, argsToLocals, Value.category]; done) | rfl)
theorem pn4 : plainName "java/lang/Integer" = true := by first | (simp [plainName, overriddenIn]; done) | decide +kernel
def Qnz (Z : State) (p0 : Int32) (h0 : Heap) (n0 : Nat) (v : Option Value) (h : Heap) (L : List Loc) : Prop := v = some (.int (28 : Int32)) ∧ Fr n0 L ∧ h = h0
set_option maxRecDepth 65536 in
set_option maxHeartbeats 40000000 in
theorem rmnz (l : Launch) (Z : State) (a0 : Array Value) (hw : ∀ d ∈ tables_1, d.before a0 Z = true) (ws : List Jvm.Cond) (p0 : Int32) (h0 : Heap) (n0 : Nat) (Z0 : n0 ≤ h0.size) (ha : p0 = (15 : Int32)) :
    MetFree l (⟨"java/lang/Integer", "numberOfLeadingZeros", "(I)I"⟩ : MethodName) (head1 (Jvm.Cond.code (⟨"java/lang/Integer", "numberOfLeadingZeros", "(I)I"⟩ : MethodName) jdk_33_method_47_code 2 (some .int) :: ws) ({ frames := 0, cells := 0, slots := 0, locals := 0 } : Room)) (fun a U => a = #[(.int p0)] ∧ Z.Warmed39 U.vm ∧ U.heap = h0) (fun _ _ _ _ _ => True) (fun _ U o U' => ∃ v L, o = .returned v ∧ Qnz Z p0 h0 n0 v U'.heap L ∧ FrameEnd U o U' L ({ frames := 0, cells := 0, slots := 0, locals := 0 } : Room).cells ({ frames := 0, cells := 0, slots := 0, locals := 0 } : Room).slots) := by
  refine MetFree.of_bodySF (plainFor_of_name pn4) hisR ?_
  intro p e s m args below meth c s₁ Bd hml0 hP hK
  obtain ⟨rfl, hZ, hh⟩ := hP
  have hx := Bd.exec
  have hby := Bd.bytes
  have hml : c.maxLocals = 2 := hml0
  have hown : s.vm.findClass "java/lang/Integer" = some m.cls := findClass_of_methodNamed Bd.named
  have hnm := (name_of_methodNamed Bd.named Bd.method).1
  have X0 : Stand p l e ({ frames := 0, cells := 0, slots := 0, locals := 0 } : Room) s m #[(.int p0)] below meth c s₁ [] 0 0 := Stand.of_body Bd
  have e0 : s₁.heap = h0 := by rw [← hh, Bd.state]; rfl
  have N0 := Fr.nil n0
  have K0 : Keep h0 h0 [] := Keep.refl h0 _
  show own_Go p e below s (Qnz Z p0 h0 n0) ({ frames := 0, cells := 0, slots := 0, locals := 0 } : Room).cells ({ frames := 0, cells := 0, slots := 0, locals := 0 } : Room).slots (s₁.setTop (entryFrame m #[(.int p0)] 2))
  refine own_go (fun t k => castTop (ef_nz m p0) k) ?_
  have hgo101 : ∀ t, Steps p.tables e below (s₁.setTop (mkF m 78 #[.val (.int (3 : Int32)), .val (.int (29 : Int32))] [(.int (28 : Int32))])) t → Steps p.tables e below (s₁.setTop (mkF m 0 #[.val (.int p0), .unset] [])) t := by
    intro t kt
    show Steps p.tables e below (s₁.setTop (mkF m 0 #[.val (.int p0), .unset] [])) _
    rw [ha]
    show Steps p.tables e below (s₁.setTop (mkF m 0 #[.val (.int (15 : Int32)), .unset] [])) _
    refine XS.iloadN X0.here hx rfl (hb hby d10_0) rfl ?_
    refine XS.ifYes X0.here hx rfl (pc0 := 1) (pc' := 15) rfl (hb hby d10_1) rfl ((if0 _ _).trans (tlt (by decide : (0 : Int32) < (15 : Int32))).2.2.1) (by decide) (by decide) ?_
    show Steps p.tables e below (s₁.setTop (mkF m 15 #[.val (.int (15 : Int32)), .unset] [])) _
    refine XS.bipush X0.here hx rfl (hb hby d10_15) ?_
    refine XS.istoreN X0.here hx rfl (hb hby d10_17) rfl (l' := #[.val (.int (15 : Int32)), .val (.int (31 : Int32))]) rfl ?_
    show Steps p.tables e below (s₁.setTop (mkF m 18 #[.val (.int (15 : Int32)), .val (.int (31 : Int32))] [])) _
    refine XS.iloadN X0.here hx rfl (hb hby d10_18) rfl ?_
    show Steps p.tables e below (s₁.setTop (mkF m 19 #[.val (.int (15 : Int32)), .val (.int (31 : Int32))] [(.int (15 : Int32))])) _
    refine X0.ldcwInt hx hown (mvT hZ (own_wd hw 64 rfl)) (g := (mkF m 19 #[.val (.int (15 : Int32)), .val (.int (31 : Int32))] [(.int (15 : Int32))])) rfl (hb hby d10_19) _ ?_
    show Steps p.tables e below (s₁.setTop (mkF m 22 #[.val (.int (15 : Int32)), .val (.int (31 : Int32))] [(.int (65536 : Int32)), (.int (15 : Int32))])) _
    refine XS.icmpYes X0.here hx rfl (pc0 := 22) (pc' := 33) rfl (hb hby d10_22) rfl (tlt (by decide : (15 : Int32) < (65536 : Int32))).1 (by decide) (by decide) ?_
    show Steps p.tables e below (s₁.setTop (mkF m 33 #[.val (.int (15 : Int32)), .val (.int (31 : Int32))] [])) _
    refine XS.iloadN X0.here hx rfl (hb hby d10_33) rfl ?_
    refine XS.sipush X0.here hx rfl (hb hby d10_34) ?_
    refine XS.icmpYes X0.here hx rfl (pc0 := 37) (pc' := 48) rfl (hb hby d10_37) rfl (tlt (by decide : (15 : Int32) < (256 : Int32))).1 (by decide) (by decide) ?_
    show Steps p.tables e below (s₁.setTop (mkF m 48 #[.val (.int (15 : Int32)), .val (.int (31 : Int32))] [])) _
    refine XS.iloadN X0.here hx rfl (hb hby d10_48) rfl ?_
    refine XS.bipush X0.here hx rfl (hb hby d10_49) ?_
    refine XS.icmpYes X0.here hx rfl (pc0 := 51) (pc' := 61) rfl (hb hby d10_51) rfl (tlt (by decide : (15 : Int32) < (16 : Int32))).1 (by decide) (by decide) ?_
    show Steps p.tables e below (s₁.setTop (mkF m 61 #[.val (.int (15 : Int32)), .val (.int (31 : Int32))] [])) _
    refine XS.iloadN X0.here hx rfl (hb hby d10_61) rfl ?_
    refine XS.iconst X0.here hx rfl (hb hby d10_62) ?_
    refine XS.icmpNo X0.here hx rfl (hb hby d10_63) rfl (flt (by decide : ¬ ((15 : Int32) < (4 : Int32)))).1 ?_
    show Steps p.tables e below (s₁.setTop (mkF m 66 #[.val (.int (15 : Int32)), .val (.int (31 : Int32))] [])) _
    refine XS.iinc X0.here hx rfl (hb hby d10_66) rfl (l' := #[.val (.int (15 : Int32)), .val (.int ((31 : Int32) + (-2 : Int32)))]) rfl ?_
    rw [show ((31 : Int32) + (-2 : Int32)) = (29 : Int32) from by decide]
    show Steps p.tables e below (s₁.setTop (mkF m 69 #[.val (.int (15 : Int32)), .val (.int (29 : Int32))] [])) _
    refine XS.iloadN X0.here hx rfl (hb hby d10_69) rfl ?_
    refine XS.iconst X0.here hx rfl (hb hby d10_70) ?_
    refine XS.iushr X0.here hx rfl (hb hby d10_71) rfl ?_
    show Steps p.tables e below (s₁.setTop (mkF m 72 #[.val (.int (15 : Int32)), .val (.int (29 : Int32))] [(.int (((15 : Int32).toUInt32 >>> ((2 : Int32) &&& 31).toUInt32).toInt32))])) _
    rw [show (((15 : Int32).toUInt32 >>> ((2 : Int32) &&& 31).toUInt32).toInt32) = (3 : Int32) from by decide +kernel]
    refine XS.istoreN X0.here hx rfl (hb hby d10_72) rfl (l' := #[.val (.int (3 : Int32)), .val (.int (29 : Int32))]) rfl ?_
    show Steps p.tables e below (s₁.setTop (mkF m 73 #[.val (.int (3 : Int32)), .val (.int (29 : Int32))] [])) _
    refine XS.iloadN X0.here hx rfl (hb hby d10_73) rfl ?_
    refine XS.iloadN X0.here hx rfl (hb hby d10_74) rfl ?_
    refine XS.iconst X0.here hx rfl (hb hby d10_75) ?_
    show Steps p.tables e below (s₁.setTop (mkF m 76 #[.val (.int (3 : Int32)), .val (.int (29 : Int32))] [(.int (1 : Int32)), (.int (3 : Int32)), (.int (29 : Int32))])) _
    refine XS.iushr X0.here hx rfl (hb hby d10_76) rfl ?_
    show Steps p.tables e below (s₁.setTop (mkF m 77 #[.val (.int (3 : Int32)), .val (.int (29 : Int32))] [(.int (((3 : Int32).toUInt32 >>> ((1 : Int32) &&& 31).toUInt32).toInt32)), (.int (29 : Int32))])) _
    refine XS.isub X0.here hx rfl (hb hby d10_77) rfl ?_
    rw [show ((29 : Int32) - (((3 : Int32).toUInt32 >>> ((1 : Int32) &&& 31).toUInt32).toInt32)) = (28 : Int32) from by decide +kernel]
    exact kt
  refine own_go hgo101 ?_
  exact own_retI X0 hx Bd.returns Bd.notSynchronized (hb hby d10_78) (by decide) (by decide) (by rw [e0]; exact ⟨(by rfl), N0, rfl⟩)
theorem pd5 : parseMethodDescriptor "(I)I" = some ⟨[.int], some .int⟩ := by decide +kernel
theorem d9_0 : decode jdk_33_method_45_code 0 = .ok (.iload_n 0, 1) := by decide +kernel
theorem d9_1 : decode jdk_33_method_45_code 1 = .ok (.ldc 127, 2) := by decide +kernel
theorem d9_3 : decode jdk_33_method_45_code 3 = .ok (.iload_n 0, 1) := by decide +kernel
theorem d9_4 : decode jdk_33_method_45_code 4 = .ok (.invokestatic 51, 3) := by decide +kernel
theorem d9_7 : decode jdk_33_method_45_code 7 = .ok (.iushr, 1) := by decide +kernel
theorem d9_8 : decode jdk_33_method_45_code 8 = .ok (.iand, 1) := by decide +kernel
theorem d9_9 : decode jdk_33_method_45_code 9 = .ok (.ireturn, 1) := by decide +kernel
theorem ef_hb (m : MethodId) (p0 : Int32) : entryFrame m #[(.int p0)] 1 = mkF m 0 #[.val (.int p0)] [] := by (first | (simp [entryFrame, mkF, argsToLocals, Value.category]; done) | rfl)
def Qhb (Z : State) (p0 : Int32) (h0 : Heap) (n0 : Nat) (v : Option Value) (h : Heap) (L : List Loc) : Prop := v = some (.int (8 : Int32)) ∧ Fr n0 L ∧ h = h0
set_option maxRecDepth 65536 in
set_option maxHeartbeats 40000000 in
theorem rmhb (l : Launch) (Z : State) (a0 : Array Value) (hw : ∀ d ∈ tables_1, d.before a0 Z = true) (ws : List Jvm.Cond) (p0 : Int32) (h0 : Heap) (n0 : Nat) (Z0 : n0 ≤ h0.size) (ha : p0 = (15 : Int32)) :
    MetFree l (⟨"java/lang/Integer", "highestOneBit", "(I)I"⟩ : MethodName) (head1 (Jvm.Cond.code (⟨"java/lang/Integer", "highestOneBit", "(I)I"⟩ : MethodName) jdk_33_method_45_code 1 (some .int) :: ws) ({ frames := 1, cells := 0, slots := 0, locals := 15 } : Room)) (fun a U => a = #[(.int p0)] ∧ Z.Warmed39 U.vm ∧ U.heap = h0) (fun _ _ _ _ _ => True) (fun _ U o U' => ∃ v L, o = .returned v ∧ Qhb Z p0 h0 n0 v U'.heap L ∧ FrameEnd U o U' L ({ frames := 1, cells := 0, slots := 0, locals := 15 } : Room).cells ({ frames := 1, cells := 0, slots := 0, locals := 15 } : Room).slots) := by
  refine MetFree.of_bodySF (plainFor_of_name pn4) hisR ?_
  intro p e s m args below meth c s₁ Bd hml0 hP hK
  obtain ⟨rfl, hZ, hh⟩ := hP
  have hx := Bd.exec
  have hby := Bd.bytes
  have hml : c.maxLocals = 1 := hml0
  have hown : s.vm.findClass "java/lang/Integer" = some m.cls := findClass_of_methodNamed Bd.named
  have hnm := (name_of_methodNamed Bd.named Bd.method).1
  have X0 : Stand p l e ({ frames := 1, cells := 0, slots := 0, locals := 15 } : Room) s m #[(.int p0)] below meth c s₁ [] 0 0 := Stand.of_body Bd
  have e0 : s₁.heap = h0 := by rw [← hh, Bd.state]; rfl
  have N0 := Fr.nil n0
  have K0 : Keep h0 h0 [] := Keep.refl h0 _
  show own_Go p e below s (Qhb Z p0 h0 n0) ({ frames := 1, cells := 0, slots := 0, locals := 15 } : Room).cells ({ frames := 1, cells := 0, slots := 0, locals := 15 } : Room).slots (s₁.setTop (entryFrame m #[(.int p0)] 1))
  refine own_go (fun t k => castTop (ef_hb m p0) k) ?_
  obtain ⟨_, _, ⟨T101, L101, k101, n101⟩, -, X101, ⟨Lc101, hQ101, l101, y101, z101⟩, st101⟩ := Jvm.LawKit.callS X0 hx (y := (⟨"java/lang/Integer", "numberOfLeadingZeros", "(I)I"⟩ : MethodName)) hown (mvT hZ (own_wd hw 61 rfl)) (mvT hZ (own_wd hw 62 rfl)) (mvT hZ (own_wd hw 58 rfl)) (mvT hZ (own_wd hw 63 rfl)) (by decide) (backOf (W := 2) (rmnz l Z a0 hw [] (15 : Int32) h0 n0 Z0 (by first | assumption | decide : (15 : Int32) = (15 : Int32))) hZ (own_wd hw 63 rfl) (own_wd hw 58 rfl) (by decide) (by decide)) (g := (mkF m 4 #[.val (.int (15 : Int32))] [(.int (15 : Int32)), (.int (-2147483648 : Int32)), (.int (15 : Int32))])) rfl (by rw [hml]; rfl) (argsL := [(.int (15 : Int32))]) (rest := [(.int (-2147483648 : Int32)), (.int (15 : Int32))]) (lenOf pd5 rfl) rfl (by show 2 * 0 + _ ≤ _; exact Nat.le_of_eq rfl) (hb hby d9_4) (fun _ _ => ⟨rfl, e0, (by decide : 0 + 0 ≤ _), (by decide : 0 + 0 ≤ _)⟩)
  dsimp only [Pt.U, Pt.locs, Pt.cells, Pt.slots] at X101 l101 y101 z101 st101 hQ101
  subst l101 y101 z101
  obtain ⟨rfl, N101q, e101⟩ := hQ101
  have N101 := Fr.app N0 N101q
  have hgo102 : ∀ t, Steps p.tables e below (T101.setTop (mkF m 9 #[.val (.int (15 : Int32))] [(.int (8 : Int32))])) t → Steps p.tables e below (s₁.setTop (mkF m 0 #[.val (.int p0)] [])) t := by
    intro t kt
    show Steps p.tables e below (s₁.setTop (mkF m 0 #[.val (.int p0)] [])) _
    rw [ha]
    show Steps p.tables e below (s₁.setTop (mkF m 0 #[.val (.int (15 : Int32))] [])) _
    refine XS.iloadN X0.here hx rfl (hb hby d9_0) rfl ?_
    show Steps p.tables e below (s₁.setTop (mkF m 1 #[.val (.int (15 : Int32))] [(.int (15 : Int32))])) _
    refine X0.ldcInt hx hown (mvT hZ (own_wd hw 60 rfl)) (g := (mkF m 1 #[.val (.int (15 : Int32))] [(.int (15 : Int32))])) rfl (hb hby d9_1) _ ?_
    show Steps p.tables e below (s₁.setTop (mkF m 3 #[.val (.int (15 : Int32))] [(.int (-2147483648 : Int32)), (.int (15 : Int32))])) _
    refine XS.iloadN X0.here hx rfl (hb hby d9_3) rfl ?_
    show Steps p.tables e below (s₁.setTop (mkF m 4 #[.val (.int (15 : Int32))] [(.int (15 : Int32)), (.int (-2147483648 : Int32)), (.int (15 : Int32))])) _
    refine st101 _ ?_
    show Steps p.tables e below (T101.setTop (mkF m 7 #[.val (.int (15 : Int32))] [(.int (28 : Int32)), (.int (-2147483648 : Int32)), (.int (15 : Int32))])) _
    refine XS.iushr X101.here hx rfl (hb hby d9_7) rfl ?_
    show Steps p.tables e below (T101.setTop (mkF m 8 #[.val (.int (15 : Int32))] [(.int (((-2147483648 : Int32).toUInt32 >>> ((28 : Int32) &&& 31).toUInt32).toInt32)), (.int (15 : Int32))])) _
    refine XS.iand X101.here hx rfl (hb hby d9_8) rfl ?_
    rw [show ((15 : Int32) &&& (((-2147483648 : Int32).toUInt32 >>> ((28 : Int32) &&& 31).toUInt32).toInt32)) = (8 : Int32) from by decide +kernel]
    exact kt
  refine own_go hgo102 ?_
  exact own_retI X101 hx Bd.returns Bd.notSynchronized (hb hby d9_9) (by decide) (by decide) (by rw [e101]; exact ⟨(by rfl), N101, rfl⟩)
theorem d11_5 : decode jdk_65_method_103_code 5 = .ok (.iload_n 2, 1) := by decide +kernel
theorem d11_6 : decode jdk_65_method_103_code 6 = .ok (.iload_n 3, 1) := by decide +kernel
theorem d11_7 : decode jdk_65_method_103_code 7 = .ok (.if_icmp .ge 13, 3) := by decide +kernel
theorem d11_10 : decode jdk_65_method_103_code 10 = .ok (.aload_n 0, 1) := by decide +kernel
theorem d11_11 : decode jdk_65_method_103_code 11 = .ok (.iload_n 2, 1) := by decide +kernel
theorem d11_12 : decode jdk_65_method_103_code 12 = .ok (.iload_n 1, 1) := by decide +kernel
theorem d11_13 : decode jdk_65_method_103_code 13 = .ok (.iastore, 1) := by decide +kernel
theorem d11_14 : decode jdk_65_method_103_code 14 = .ok (.iinc 2 1, 3) := by decide +kernel
theorem d11_17 : decode jdk_65_method_103_code 17 = .ok (.goto (-12), 3) := by decide +kernel
set_option maxRecDepth 65536 in
set_option maxHeartbeats 40000000 in
theorem own_fillL {p : Program} {l : Launch} {e : Env} {R : Room} {s : State} {m : MethodId} {args : Array Value} {below : List Frame} {meth : Method} {c : Code} {cells slots : Nat} {Z : State} {a0 : Array Value} {h0 : Heap} {n0 : Nat} (r0 : Addr) (p1 : Int32) (hx : p.tables.exec = Jvm.exec) (hZ : Z.Warmed39 s.vm) (hw : ∀ d ∈ tables_1, d.before a0 Z = true) (hby : c.code = jdk_65_method_103_code) (hml : c.maxLocals = 4) (hown : s.vm.findClass "java/util/Arrays" = some m.cls) (hg : n0 ≤ r0) :
    ∀ (k : Nat) (T : State) (locs : List Loc) (h : Heap) (i : Int32) (f : Nat → Int32), Stand p l e R s m args below meth c T locs cells slots → Fr n0 locs → T.heap = h → n0 ≤ h.size → Keep h0 h [r0] → own_AI Z h r0 .int 32 f → (0 ≤ i.toInt ∧ i.toInt ≤ 32) → (∀ j, j < i.toInt.toNat → f j = p1) → 33 ≤ i.toInt.toNat + k → own_Run p e below (T.setTop (mkF m 5 #[.val (.ref r0), .val (.int p1), .val (.int i), .val (.int (32 : Int32))] [])) (fun B => ∃ (T' : State) (locs' : List Loc) (h' : Heap) (i' : Int32) (f' : Nat → Int32), B = T'.setTop (mkF m 20 #[.val (.ref r0), .val (.int p1), .val (.int i'), .val (.int (32 : Int32))] []) ∧ Stand p l e R s m args below meth c T' locs' cells slots ∧ Fr n0 locs' ∧ T'.heap = h' ∧ n0 ≤ h'.size ∧ Keep h0 h' [r0] ∧ own_AI Z h' r0 .int 32 f' ∧ ∀ j, j < 32 → f' j = p1) := by
  intro k
  induction k with
  | zero =>
    intro T locs h i f X0 N0 e0 Z0 K0 Ft0 hi hfl hk
    omega
  | succ k ih =>
    intro T locs h i f X0 N0 e0 Z0 K0 Ft0 hi hfl hk
    have hgo101 : ∀ t, Steps p.tables e below (T.setTop (mkF m 7 #[.val (.ref r0), .val (.int p1), .val (.int i), .val (.int (32 : Int32))] [(.int (32 : Int32)), (.int i)])) t → Steps p.tables e below (T.setTop (mkF m 5 #[.val (.ref r0), .val (.int p1), .val (.int i), .val (.int (32 : Int32))] [])) t := by
      intro t kt
      show Steps p.tables e below (T.setTop (mkF m 5 #[.val (.ref r0), .val (.int p1), .val (.int i), .val (.int (32 : Int32))] [])) _
      refine XS.iloadN X0.here hx rfl (hb hby d11_5) rfl ?_
      refine XS.iloadN X0.here hx rfl (hb hby d11_6) rfl ?_
      exact kt
    refine own_run hgo101 ?_
    by_cases hc7_1 : i < (32 : Int32)
    · have hin13_102 : ¬ i < 0 ∧ i.toNatClampNeg < 32 := own_fi1 hi hc7_1
      obtain ⟨T103, h103, X103, e103, W103, B103, st103⟩ := own_stI X0 hx hZ e0 Ft0 (j := i) (x := p1) hin13_102 (g := (mkF m 13 #[.val (.ref r0), .val (.int p1), .val (.int i), .val (.int (32 : Int32))] [(.int p1), (.int i), (.ref r0)])) rfl rfl (hb hby d11_13)
      obtain ⟨v2, hv2⟩ : ∃ z : Nat → Int32, z = (own_up f (i.toNatClampNeg) p1) := ⟨_, rfl⟩
      have B103n : own_AI Z h103 r0 .int 32 v2 := by rw [hv2]; exact B103
      have Z104 : n0 ≤ h103.size := Nat.le_trans Z0 (Keep.of_wr W103).1
      have K105 : Keep h0 h103 [r0] := K0.wr W103 (Or.inl (List.mem_of_getElem? (i := 0) rfl))
      have N106 := Fr.snoc X103 N0 hg
      obtain ⟨v3, hv3⟩ : ∃ z : Int32, z = (i + (1 : Int32)) := ⟨_, rfl⟩
      have hgo107 : ∀ t, Steps p.tables e below (T103.setTop (mkF m 5 #[.val (.ref r0), .val (.int p1), .val (.int v3), .val (.int (32 : Int32))] [])) t → Steps p.tables e below (T.setTop (mkF m 7 #[.val (.ref r0), .val (.int p1), .val (.int i), .val (.int (32 : Int32))] [(.int (32 : Int32)), (.int i)])) t := by
        intro t kt
        show Steps p.tables e below (T.setTop (mkF m 7 #[.val (.ref r0), .val (.int p1), .val (.int i), .val (.int (32 : Int32))] [(.int (32 : Int32)), (.int i)])) _
        refine XS.icmpNo X0.here hx rfl (hb hby d11_7) rfl (tlt hc7_1).2.1 ?_
        show Steps p.tables e below (T.setTop (mkF m 10 #[.val (.ref r0), .val (.int p1), .val (.int i), .val (.int (32 : Int32))] [])) _
        refine XS.aloadN X0.here hx rfl (hb hby d11_10) rfl rfl ?_
        refine XS.iloadN X0.here hx rfl (hb hby d11_11) rfl ?_
        refine XS.iloadN X0.here hx rfl (hb hby d11_12) rfl ?_
        show Steps p.tables e below (T.setTop (mkF m 13 #[.val (.ref r0), .val (.int p1), .val (.int i), .val (.int (32 : Int32))] [(.int p1), (.int i), (.ref r0)])) _
        refine st103 _ ?_
        show Steps p.tables e below (T103.setTop (mkF m 14 #[.val (.ref r0), .val (.int p1), .val (.int i), .val (.int (32 : Int32))] [])) _
        refine XS.iinc X103.here hx rfl (hb hby d11_14) rfl (l' := #[.val (.ref r0), .val (.int p1), .val (.int (i + (1 : Int32))), .val (.int (32 : Int32))]) rfl ?_
        rw [← hv3]
        show Steps p.tables e below (T103.setTop (mkF m 17 #[.val (.ref r0), .val (.int p1), .val (.int v3), .val (.int (32 : Int32))] [])) _
        refine XS.goto X103.here hx rfl (pc0 := 17) (pc' := 5) rfl (hb hby d11_17) (by decide) (by decide) ?_
        exact kt
      refine own_run hgo107 ?_
      obtain ⟨fa, fb, fc⟩ := own_fi2 hi hc7_1 hfl hk hv3 hv2
      exact ih _ _ _ v3 v2 X103 N106 e103 Z104 K105 B103n fa fb fc
    · have hgo108 : ∀ t, Steps p.tables e below (T.setTop (mkF m 20 #[.val (.ref r0), .val (.int p1), .val (.int i), .val (.int (32 : Int32))] [])) t → Steps p.tables e below (T.setTop (mkF m 7 #[.val (.ref r0), .val (.int p1), .val (.int i), .val (.int (32 : Int32))] [(.int (32 : Int32)), (.int i)])) t := by
        intro t kt
        show Steps p.tables e below (T.setTop (mkF m 7 #[.val (.ref r0), .val (.int p1), .val (.int i), .val (.int (32 : Int32))] [(.int (32 : Int32)), (.int i)])) _
        refine XS.icmpYes X0.here hx rfl (pc0 := 7) (pc' := 20) rfl (hb hby d11_7) rfl (flt hc7_1).2.1 (by decide) (by decide) ?_
        exact kt
      refine own_run hgo108 ?_
      exact ⟨_, ⟨_, _, _, i, f, rfl, X0, N0, e0, Z0, K0, Ft0, own_fi3 hi hc7_1 hfl⟩, fun t kt => kt⟩
theorem d11_0 : decode jdk_65_method_103_code 0 = .ok (.iconst 0, 1) := by decide +kernel
theorem d11_1 : decode jdk_65_method_103_code 1 = .ok (.istore_n 2, 1) := by decide +kernel
theorem d11_2 : decode jdk_65_method_103_code 2 = .ok (.aload_n 0, 1) := by decide +kernel
theorem d11_3 : decode jdk_65_method_103_code 3 = .ok (.arraylength, 1) := by decide +kernel
theorem d11_4 : decode jdk_65_method_103_code 4 = .ok (.istore_n 3, 1) := by decide +kernel
theorem d11_20 : decode jdk_65_method_103_code 20 = .ok (.return_, 1) := by decide +kernel
theorem ef_fl (m : MethodId) (r0 : Addr) (p1 : Int32) : entryFrame m #[(.ref r0), (.int p1)] 4 = mkF m 0 #[.val (.ref r0), .val (.int p1), .unset, .unset] [] := by (first | (simp [entryFrame, mkF, argsToLocals, Value.category]; done) | rfl)
theorem pn6 : plainName "java/util/Arrays" = true := by first | (simp [plainName, overriddenIn]; done) | decide +kernel
def Qfl (Z : State) (r0 : Addr) (p1 : Int32) (f : Nat → Int32) (h0 : Heap) (n0 : Nat) (v : Option Value) (h : Heap) (L : List Loc) : Prop := v = none ∧ Fr n0 L ∧ Keep h0 h [r0] ∧ own_AI Z h r0 .int 32 (fun _ => p1)
set_option maxRecDepth 65536 in
set_option maxHeartbeats 40000000 in
theorem rmfl (l : Launch) (Z : State) (a0 : Array Value) (hw : ∀ d ∈ tables_1, d.before a0 Z = true) (ws : List Jvm.Cond) (r0 : Addr) (p1 : Int32) (f : Nat → Int32) (h0 : Heap) (n0 : Nat) (Z0 : n0 ≤ h0.size) (A_r0 : own_AI Z h0 r0 .int 32 f) (hg : n0 ≤ r0) :
    MetFree l (⟨"java/util/Arrays", "fill", "([II)V"⟩ : MethodName) (head1 (Jvm.Cond.code (⟨"java/util/Arrays", "fill", "([II)V"⟩ : MethodName) jdk_65_method_103_code 4 none :: ws) ({ frames := 0, cells := 0, slots := 0, locals := 0 } : Room)) (fun a U => a = #[(.ref r0), (.int p1)] ∧ Z.Warmed39 U.vm ∧ U.heap = h0) (fun _ _ _ _ _ => True) (fun _ U o U' => ∃ v L, o = .returned v ∧ Qfl Z r0 p1 f h0 n0 v U'.heap L ∧ FrameEnd U o U' L ({ frames := 0, cells := 0, slots := 0, locals := 0 } : Room).cells ({ frames := 0, cells := 0, slots := 0, locals := 0 } : Room).slots) := by
  refine MetFree.of_bodySF (plainFor_of_name pn6) hisR ?_
  intro p e s m args below meth c s₁ Bd hml0 hP hK
  obtain ⟨rfl, hZ, hh⟩ := hP
  have hx := Bd.exec
  have hby := Bd.bytes
  have hml : c.maxLocals = 4 := hml0
  have hown : s.vm.findClass "java/util/Arrays" = some m.cls := findClass_of_methodNamed Bd.named
  have hnm := (name_of_methodNamed Bd.named Bd.method).1
  have X0 : Stand p l e ({ frames := 0, cells := 0, slots := 0, locals := 0 } : Room) s m #[(.ref r0), (.int p1)] below meth c s₁ [] 0 0 := Stand.of_body Bd
  have e0 : s₁.heap = h0 := by rw [← hh, Bd.state]; rfl
  have N0 := Fr.nil n0
  have K0 : Keep h0 h0 [r0] := Keep.refl h0 _
  show own_Go p e below s (Qfl Z r0 p1 f h0 n0) ({ frames := 0, cells := 0, slots := 0, locals := 0 } : Room).cells ({ frames := 0, cells := 0, slots := 0, locals := 0 } : Room).slots (s₁.setTop (entryFrame m #[(.ref r0), (.int p1)] 4))
  refine own_go (fun t k => castTop (ef_fl m r0 p1) k) ?_
  obtain ⟨_, ⟨T1, lc1, h1, i1, f1, rfl, X1, N1, e1, Z1, K1, A1, V1⟩, stR⟩ := own_fillL r0 p1 hx hZ hw hby hml hown hg 33 _ _ _ (0 : Int32) f X0 N0 e0 Z0 K0 A_r0 (by decide) (fun j hj => absurd hj (Nat.not_lt_zero _)) (Nat.le_add_left _ _)
  have A2 := own_AIcongr A1 (g := (fun _ => p1)) V1
  have hgo101 : ∀ t, Steps p.tables e below (T1.setTop (mkF m 20 #[.val (.ref r0), .val (.int p1), .val (.int i1), .val (.int (32 : Int32))] [])) t → Steps p.tables e below (s₁.setTop (mkF m 0 #[.val (.ref r0), .val (.int p1), .unset, .unset] [])) t := by
    intro t kt
    show Steps p.tables e below (s₁.setTop (mkF m 0 #[.val (.ref r0), .val (.int p1), .unset, .unset] [])) _
    refine XS.iconst X0.here hx rfl (hb hby d11_0) ?_
    refine XS.istoreN X0.here hx rfl (hb hby d11_1) rfl (l' := #[.val (.ref r0), .val (.int p1), .val (.int (0 : Int32)), .unset]) rfl ?_
    show Steps p.tables e below (s₁.setTop (mkF m 2 #[.val (.ref r0), .val (.int p1), .val (.int (0 : Int32)), .unset] [])) _
    refine XS.aloadN X0.here hx rfl (hb hby d11_2) rfl rfl ?_
    show Steps p.tables e below (s₁.setTop (mkF m 3 #[.val (.ref r0), .val (.int p1), .val (.int (0 : Int32)), .unset] [(.ref r0)])) _
    refine own_lenI X0 hx hZ e0 A_r0 (g := (mkF m 3 #[.val (.ref r0), .val (.int p1), .val (.int (0 : Int32)), .unset] [(.ref r0)])) rfl rfl (hb hby d11_3) _ ?_
    show Steps p.tables e below (s₁.setTop (mkF m 4 #[.val (.ref r0), .val (.int p1), .val (.int (0 : Int32)), .unset] [(.int (32 : Int32))])) _
    refine XS.istoreN X0.here hx rfl (hb hby d11_4) rfl (l' := #[.val (.ref r0), .val (.int p1), .val (.int (0 : Int32)), .val (.int (32 : Int32))]) rfl ?_
    show Steps p.tables e below (s₁.setTop (mkF m 5 #[.val (.ref r0), .val (.int p1), .val (.int (0 : Int32)), .val (.int (32 : Int32))] [])) _
    refine stR _ ?_
    exact kt
  refine own_go hgo101 ?_
  exact own_retV X1 hx Bd.returns Bd.notSynchronized (hb hby d11_20) (by decide) (by decide) (by rw [e1]; exact ⟨(by rfl), N1, K1, (by exact A2)⟩)
theorem pd7 : parseMethodDescriptor "(II)I" = some ⟨[.int, .int], some .int⟩ := by decide +kernel
theorem pd8 : parseMethodDescriptor "([II)V" = some ⟨[(.array .int), .int], none⟩ := by decide +kernel
theorem d7_0 : decode prog_13_method_9_code 0 = .ok (.iload_n 0, 1) := by decide +kernel
theorem d7_1 : decode prog_13_method_9_code 1 = .ok (.iconst 2, 1) := by decide +kernel
theorem d7_2 : decode prog_13_method_9_code 2 = .ok (.invokestatic 90, 3) := by decide +kernel
theorem d7_5 : decode prog_13_method_9_code 5 = .ok (.iconst 1, 1) := by decide +kernel
theorem d7_6 : decode prog_13_method_9_code 6 = .ok (.isub, 1) := by decide +kernel
theorem d7_7 : decode prog_13_method_9_code 7 = .ok (.invokestatic 93, 3) := by decide +kernel
theorem d7_10 : decode prog_13_method_9_code 10 = .ok (.iconst 2, 1) := by decide +kernel
theorem d7_11 : decode prog_13_method_9_code 11 = .ok (.ishl, 1) := by decide +kernel
theorem d7_12 : decode prog_13_method_9_code 12 = .ok (.newarray .int, 2) := by decide +kernel
theorem d7_14 : decode prog_13_method_9_code 14 = .ok (.astore_n 1, 1) := by decide +kernel
theorem d7_15 : decode prog_13_method_9_code 15 = .ok (.aload_n 1, 1) := by decide +kernel
theorem d7_16 : decode prog_13_method_9_code 16 = .ok (.iconst (-1), 1) := by decide +kernel
theorem d7_17 : decode prog_13_method_9_code 17 = .ok (.invokestatic 99, 3) := by decide +kernel
theorem d7_20 : decode prog_13_method_9_code 20 = .ok (.aload_n 1, 1) := by decide +kernel
theorem d7_21 : decode prog_13_method_9_code 21 = .ok (.areturn, 1) := by decide +kernel
theorem ef_em (m : MethodId) (p0 : Int32) : entryFrame m #[(.int p0)] 2 = mkF m 0 #[.val (.int p0), .unset] [] := by (first | (simp [entryFrame, mkF, argsToLocals, Value.category]; done) | rfl)
theorem pn9 : plainName "com/example/upper_falls/upperfalls/HeldKeys" = true := by first | (simp [plainName, overriddenIn]; done) | decide +kernel
def Qem (Z : State) (p0 : Int32) (h0 : Heap) (n0 : Nat) (v : Option Value) (h : Heap) (L : List Loc) : Prop := ∃ x0 : Addr, v = some (.ref x0) ∧ Fr n0 L ∧ Keep h0 h [] ∧ h0.size ≤ x0 ∧ own_AI Z h x0 .int 32 (fun _ => (-1 : Int32))
set_option maxRecDepth 65536 in
set_option maxHeartbeats 40000000 in
theorem rmem (l : Launch) (Z : State) (a0 : Array Value) (hw : ∀ d ∈ tables_1, d.before a0 Z = true) (ws : List Jvm.Cond) (p0 : Int32) (h0 : Heap) (n0 : Nat) (Z0 : n0 ≤ h0.size) (ha : p0 = (16 : Int32)) :
    MetFree l (⟨"com/example/upper_falls/upperfalls/HeldKeys", "emptySlots", "(I)[I"⟩ : MethodName) (head1 (Jvm.Cond.code (⟨"com/example/upper_falls/upperfalls/HeldKeys", "emptySlots", "(I)[I"⟩ : MethodName) prog_13_method_9_code 2 (some (.array .int)) :: ws) ({ frames := 2, cells := 1, slots := 32, locals := 27 } : Room)) (fun a U => a = #[(.int p0)] ∧ Z.Warmed39 U.vm ∧ U.heap = h0) (fun _ _ _ _ _ => True) (fun _ U o U' => ∃ v L, o = .returned v ∧ Qem Z p0 h0 n0 v U'.heap L ∧ FrameEnd U o U' L ({ frames := 2, cells := 1, slots := 32, locals := 27 } : Room).cells ({ frames := 2, cells := 1, slots := 32, locals := 27 } : Room).slots) := by
  refine MetFree.of_bodySF (plainFor_of_name pn9) hisR ?_
  intro p e s m args below meth c s₁ Bd hml0 hP hK
  obtain ⟨rfl, hZ, hh⟩ := hP
  have hx := Bd.exec
  have hby := Bd.bytes
  have hml : c.maxLocals = 2 := hml0
  have hown : s.vm.findClass "com/example/upper_falls/upperfalls/HeldKeys" = some m.cls := findClass_of_methodNamed Bd.named
  have hnm := (name_of_methodNamed Bd.named Bd.method).1
  have X0 : Stand p l e ({ frames := 2, cells := 1, slots := 32, locals := 27 } : Room) s m #[(.int p0)] below meth c s₁ [] 0 0 := Stand.of_body Bd
  have e0 : s₁.heap = h0 := by rw [← hh, Bd.state]; rfl
  have N0 := Fr.nil n0
  have K0 : Keep h0 h0 [] := Keep.refl h0 _
  show own_Go p e below s (Qem Z p0 h0 n0) ({ frames := 2, cells := 1, slots := 32, locals := 27 } : Room).cells ({ frames := 2, cells := 1, slots := 32, locals := 27 } : Room).slots (s₁.setTop (entryFrame m #[(.int p0)] 2))
  refine own_go (fun t k => castTop (ef_em m p0) k) ?_
  obtain ⟨_, _, ⟨T101, L101, k101, n101⟩, -, X101, ⟨Lc101, hQ101, l101, y101, z101⟩, st101⟩ := Jvm.LawKit.callS X0 hx (y := (⟨"java/lang/Math", "max", "(II)I"⟩ : MethodName)) hown (mvT hZ (own_wd hw 53 rfl)) (mvT hZ (own_wd hw 54 rfl)) (mvT hZ (own_wd hw 36 rfl)) (mvT hZ (own_wd hw 55 rfl)) (by decide) (backOf (W := 0) (rmmx l Z a0 hw [] (16 : Int32) (2 : Int32) h0 n0 Z0 (by first | assumption | decide : (16 : Int32) = (16 : Int32)) (by first | assumption | decide : (2 : Int32) = (2 : Int32))) hZ (own_wd hw 55 rfl) (own_wd hw 36 rfl) (by decide) (by decide)) (g := (mkF m 2 #[.val (.int (16 : Int32)), .unset] [(.int (2 : Int32)), (.int (16 : Int32))])) rfl (by rw [hml]; rfl) (argsL := [(.int (16 : Int32)), (.int (2 : Int32))]) (rest := []) (lenOf pd7 rfl) rfl (by show 2 * 0 + _ ≤ _; exact Nat.le_of_eq rfl) (hb hby d7_2) (fun _ _ => ⟨rfl, e0, (by decide : 0 + 0 ≤ _), (by decide : 0 + 0 ≤ _)⟩)
  dsimp only [Pt.U, Pt.locs, Pt.cells, Pt.slots] at X101 l101 y101 z101 st101 hQ101
  subst l101 y101 z101
  obtain ⟨rfl, N101q, e101⟩ := hQ101
  have N101 := Fr.app N0 N101q
  obtain ⟨_, _, ⟨T102, L102, k102, n102⟩, -, X102, ⟨Lc102, hQ102, l102, y102, z102⟩, st102⟩ := Jvm.LawKit.callS X101 hx (y := (⟨"java/lang/Integer", "highestOneBit", "(I)I"⟩ : MethodName)) hown (mvT hZ (own_wd hw 56 rfl)) (mvT hZ (own_wd hw 57 rfl)) (mvT hZ (own_wd hw 58 rfl)) (mvT hZ (own_wd hw 59 rfl)) (by decide) (backOf (W := 0) (rmhb l Z a0 hw [] (15 : Int32) h0 n0 Z0 (by first | assumption | decide : (15 : Int32) = (15 : Int32))) hZ (own_wd hw 59 rfl) (own_wd hw 58 rfl) (by decide) (by decide)) (g := (mkF m 7 #[.val (.int (16 : Int32)), .unset] [(.int (15 : Int32))])) rfl (by rw [hml]; rfl) (argsL := [(.int (15 : Int32))]) (rest := []) (lenOf pd5 rfl) rfl (by show 2 * 0 + _ ≤ _; exact Nat.le_of_eq rfl) (hb hby d7_7) (fun _ _ => ⟨rfl, e101, (by decide : 0 + 0 ≤ _), (by decide : 0 + 0 ≤ _)⟩)
  dsimp only [Pt.U, Pt.locs, Pt.cells, Pt.slots] at X102 l102 y102 z102 st102 hQ102
  subst l102 y102 z102
  obtain ⟨rfl, N102q, e102⟩ := hQ102
  have N102 := Fr.app N101 N102q
  obtain ⟨T103, h103, k103, X103, e103, E103, A103, st103⟩ := newP X102 hx hZ (own_wd hw 45 rfl) e102 (g := (mkF m 12 #[.val (.int (16 : Int32)), .unset] [(.int (32 : Int32))])) rfl (hb hby d7_12) rfl (by decide) (cap := 32) (by decide) (by decide) (by decide) (by decide)
  obtain ⟨b103, g103⟩ : ∃ z, z = h0.size := ⟨_, rfl⟩
  rw [← g103] at A103 st103
  have g_b103 : n0 ≤ b103 := Nat.le_trans Z0 (Nat.le_of_eq g103.symm)
  have sz_b103 : h0.size ≤ b103 := Nat.le_trans K0.1 (Nat.le_of_eq g103.symm)
  have Z104 : n0 ≤ h103.size := Nat.le_trans Z0 E103.1
  have K105 : Keep h0 h103 [] := K0.ext E103
  obtain ⟨v1, hv1⟩ : ∃ z : Nat → Int32, z = (fun _ => (0 : Int32)) := ⟨_, rfl⟩
  have F106 : own_AI Z h103 b103 .int 32 v1 := by rw [hv1]; exact own_AI.new A103 rfl (by decide)
  obtain ⟨_, _, ⟨T107, L107, k107, n107⟩, -, X107, ⟨Lc107, hQ107, l107, y107, z107⟩, st107⟩ := Jvm.LawKit.callS X103 hx (y := (⟨"java/util/Arrays", "fill", "([II)V"⟩ : MethodName)) hown (mvT hZ (own_wd hw 65 rfl)) (mvT hZ (own_wd hw 66 rfl)) (mvT hZ (own_wd hw 67 rfl)) (mvT hZ (own_wd hw 68 rfl)) (by decide) (backOf (W := 0) (rmfl l Z a0 hw [] b103 (-1 : Int32) v1 h103 n0 Z104 F106 g_b103) hZ (own_wd hw 68 rfl) (own_wd hw 67 rfl) (by decide) (by decide)) (g := (mkF m 17 #[.val (.int (16 : Int32)), .val (.ref b103)] [(.int (-1 : Int32)), (.ref b103)])) rfl (by rw [hml]; rfl) (argsL := [(.ref b103), (.int (-1 : Int32))]) (rest := []) (lenOf pd8 rfl) rfl (by show 2 * 0 + _ ≤ _; exact Nat.le_of_eq rfl) (hb hby d7_17) (fun _ _ => ⟨rfl, e103, (by decide : 1 + 0 ≤ _), (by decide : 32 + 0 ≤ _)⟩)
  dsimp only [Pt.U, Pt.locs, Pt.cells, Pt.slots] at X107 l107 y107 z107 st107 hQ107
  subst l107 y107 z107
  obtain ⟨rfl, N107q, K107q, F107_0⟩ := hQ107
  have Z108 : n0 ≤ T107.heap.size := Nat.le_trans Z104 K107q.1
  have K109 : Keep h0 T107.heap [] := K105.trans K107q (allS (Or.inr sz_b103) all0)
  obtain ⟨v2, hv2⟩ : ∃ z : Nat → Int32, z = (fun _ => (-1 : Int32)) := ⟨_, rfl⟩
  have F107_0n : own_AI Z T107.heap b103 .int 32 v2 := by rw [hv2]; exact F107_0
  have N107 := Fr.app N102 N107q
  have hgo110 : ∀ t, Steps p.tables e below (T107.setTop (mkF m 21 #[.val (.int (16 : Int32)), .val (.ref b103)] [(.ref b103)])) t → Steps p.tables e below (s₁.setTop (mkF m 0 #[.val (.int p0), .unset] [])) t := by
    intro t kt
    show Steps p.tables e below (s₁.setTop (mkF m 0 #[.val (.int p0), .unset] [])) _
    rw [ha]
    show Steps p.tables e below (s₁.setTop (mkF m 0 #[.val (.int (16 : Int32)), .unset] [])) _
    refine XS.iloadN X0.here hx rfl (hb hby d7_0) rfl ?_
    refine XS.iconst X0.here hx rfl (hb hby d7_1) ?_
    show Steps p.tables e below (s₁.setTop (mkF m 2 #[.val (.int (16 : Int32)), .unset] [(.int (2 : Int32)), (.int (16 : Int32))])) _
    refine st101 _ ?_
    show Steps p.tables e below (T101.setTop (mkF m 5 #[.val (.int (16 : Int32)), .unset] [(.int (16 : Int32))])) _
    refine XS.iconst X101.here hx rfl (hb hby d7_5) ?_
    refine XS.isub X101.here hx rfl (hb hby d7_6) rfl ?_
    show Steps p.tables e below (T101.setTop (mkF m 7 #[.val (.int (16 : Int32)), .unset] [(.int (15 : Int32))])) _
    refine st102 _ ?_
    show Steps p.tables e below (T102.setTop (mkF m 10 #[.val (.int (16 : Int32)), .unset] [(.int (8 : Int32))])) _
    refine XS.iconst X102.here hx rfl (hb hby d7_10) ?_
    refine XS.ishl X102.here hx rfl (hb hby d7_11) rfl ?_
    show Steps p.tables e below (T102.setTop (mkF m 12 #[.val (.int (16 : Int32)), .unset] [(.int ((8 : Int32) <<< ((2 : Int32) &&& 31)))])) _
    rw [show ((8 : Int32) <<< ((2 : Int32) &&& 31)) = (32 : Int32) from by decide +kernel]
    refine st103 _ ?_
    show Steps p.tables e below (T103.setTop (mkF m 14 #[.val (.int (16 : Int32)), .unset] [(.ref b103)])) _
    refine XS.astoreN X103.here hx rfl (hb hby d7_14) rfl rfl (l' := #[.val (.int (16 : Int32)), .val (.ref b103)]) rfl ?_
    show Steps p.tables e below (T103.setTop (mkF m 15 #[.val (.int (16 : Int32)), .val (.ref b103)] [])) _
    refine XS.aloadN X103.here hx rfl (hb hby d7_15) rfl rfl ?_
    refine XS.iconst X103.here hx rfl (hb hby d7_16) ?_
    show Steps p.tables e below (T103.setTop (mkF m 17 #[.val (.int (16 : Int32)), .val (.ref b103)] [(.int (-1 : Int32)), (.ref b103)])) _
    refine st107 _ ?_
    show Steps p.tables e below (T107.setTop (mkF m 20 #[.val (.int (16 : Int32)), .val (.ref b103)] [])) _
    refine XS.aloadN X107.here hx rfl (hb hby d7_20) rfl rfl ?_
    exact kt
  refine own_go hgo110 ?_
  exact own_retA X107 hx Bd.returns rfl rfl Bd.notSynchronized (hb hby d7_21) (by decide) (by decide) ⟨b103, (by rfl), N107, K109, sz_b103, (by subst hv2 hv1; exact F107_0n)⟩
theorem pd10 : parseMethodDescriptor "(I)[I" = some ⟨[.int], some (.array .int)⟩ := by decide +kernel
theorem d5_0 : decode prog_13_method_1_code 0 = .ok (.aload_n 0, 1) := by decide +kernel
theorem d5_1 : decode prog_13_method_1_code 1 = .ok (.invokespecial 1, 3) := by decide +kernel
theorem d5_4 : decode prog_13_method_1_code 4 = .ok (.aload_n 0, 1) := by decide +kernel
theorem d5_5 : decode prog_13_method_1_code 5 = .ok (.iload_n 1, 1) := by decide +kernel
theorem d5_6 : decode prog_13_method_1_code 6 = .ok (.putfield 7, 3) := by decide +kernel
theorem d5_9 : decode prog_13_method_1_code 9 = .ok (.bipush 16, 2) := by decide +kernel
theorem d5_11 : decode prog_13_method_1_code 11 = .ok (.iload_n 1, 1) := by decide +kernel
theorem d5_12 : decode prog_13_method_1_code 12 = .ok (.invokestatic 13, 3) := by decide +kernel
theorem d5_15 : decode prog_13_method_1_code 15 = .ok (.istore_n 2, 1) := by decide +kernel
theorem d5_16 : decode prog_13_method_1_code 16 = .ok (.aload_n 0, 1) := by decide +kernel
theorem d5_17 : decode prog_13_method_1_code 17 = .ok (.iload_n 2, 1) := by decide +kernel
theorem d5_18 : decode prog_13_method_1_code 18 = .ok (.newarray .long, 2) := by decide +kernel
theorem d5_20 : decode prog_13_method_1_code 20 = .ok (.putfield 19, 3) := by decide +kernel
theorem d5_23 : decode prog_13_method_1_code 23 = .ok (.aload_n 0, 1) := by decide +kernel
theorem d5_24 : decode prog_13_method_1_code 24 = .ok (.iload_n 2, 1) := by decide +kernel
theorem d5_25 : decode prog_13_method_1_code 25 = .ok (.newarray .long, 2) := by decide +kernel
theorem d5_27 : decode prog_13_method_1_code 27 = .ok (.putfield 23, 3) := by decide +kernel
theorem d5_30 : decode prog_13_method_1_code 30 = .ok (.aload_n 0, 1) := by decide +kernel
theorem d5_31 : decode prog_13_method_1_code 31 = .ok (.iload_n 2, 1) := by decide +kernel
theorem d5_32 : decode prog_13_method_1_code 32 = .ok (.newarray .long, 2) := by decide +kernel
theorem d5_34 : decode prog_13_method_1_code 34 = .ok (.putfield 26, 3) := by decide +kernel
theorem d5_37 : decode prog_13_method_1_code 37 = .ok (.aload_n 0, 1) := by decide +kernel
theorem d5_38 : decode prog_13_method_1_code 38 = .ok (.iload_n 2, 1) := by decide +kernel
theorem d5_39 : decode prog_13_method_1_code 39 = .ok (.newarray .int, 2) := by decide +kernel
theorem d5_41 : decode prog_13_method_1_code 41 = .ok (.putfield 29, 3) := by decide +kernel
theorem d5_44 : decode prog_13_method_1_code 44 = .ok (.aload_n 0, 1) := by decide +kernel
theorem d5_45 : decode prog_13_method_1_code 45 = .ok (.iload_n 2, 1) := by decide +kernel
theorem d5_46 : decode prog_13_method_1_code 46 = .ok (.newarray .int, 2) := by decide +kernel
theorem d5_48 : decode prog_13_method_1_code 48 = .ok (.putfield 33, 3) := by decide +kernel
theorem d5_51 : decode prog_13_method_1_code 51 = .ok (.aload_n 0, 1) := by decide +kernel
theorem d5_52 : decode prog_13_method_1_code 52 = .ok (.iload_n 2, 1) := by decide +kernel
theorem d5_53 : decode prog_13_method_1_code 53 = .ok (.invokestatic 36, 3) := by decide +kernel
theorem d5_56 : decode prog_13_method_1_code 56 = .ok (.putfield 40, 3) := by decide +kernel
theorem d5_59 : decode prog_13_method_1_code 59 = .ok (.return_, 1) := by decide +kernel
theorem ef_ik (m : MethodId) (r0 : Addr) (p1 : Int32) : entryFrame m #[(.ref r0), (.int p1)] 3 = mkF m 0 #[.val (.ref r0), .val (.int p1), .unset] [] := by (first | (simp [entryFrame, mkF, argsToLocals, Value.category]; done) | rfl)
def Qik (Z : State) (r0 : Addr) (p1 : Int32) (h0 : Heap) (n0 : Nat) (v : Option Value) (h : Heap) (L : List Loc) : Prop := ∃ x0 : Addr, ∃ x1 : Addr, ∃ x2 : Addr, ∃ x3 : Addr, ∃ x4 : Addr, ∃ x5 : Addr, v = none ∧ Fr n0 L ∧ Keep h0 h [r0] ∧ h0.size ≤ x0 ∧ h0.size ≤ x1 ∧ h0.size ≤ x2 ∧ h0.size ≤ x3 ∧ h0.size ≤ x4 ∧ h0.size ≤ x5 ∧ x0 ≠ x1 ∧ x0 ≠ x2 ∧ x0 ≠ x3 ∧ x0 ≠ x4 ∧ x0 ≠ x5 ∧ x1 ≠ x2 ∧ x1 ≠ x3 ∧ x1 ≠ x4 ∧ x1 ≠ x5 ∧ x2 ≠ x3 ∧ x2 ≠ x4 ∧ x2 ≠ x5 ∧ x3 ≠ x4 ∧ x3 ≠ x5 ∧ x4 ≠ x5 ∧ Exa Z h r0 "com/example/upper_falls/upperfalls/HeldKeys" ∧ Fld Z h r0 "com/example/upper_falls/upperfalls/HeldKeys" "hash1" "[J" (.ref x0) ∧ Fld Z h r0 "com/example/upper_falls/upperfalls/HeldKeys" "hash2" "[J" (.ref x1) ∧ Fld Z h r0 "com/example/upper_falls/upperfalls/HeldKeys" "occurrences" "[J" (.ref x2) ∧ Fld Z h r0 "com/example/upper_falls/upperfalls/HeldKeys" "holders" "[I" (.ref x3) ∧ Fld Z h r0 "com/example/upper_falls/upperfalls/HeldKeys" "free" "[I" (.ref x4) ∧ Fld Z h r0 "com/example/upper_falls/upperfalls/HeldKeys" "slots" "[I" (.ref x5) ∧ Fld Z h r0 "com/example/upper_falls/upperfalls/HeldKeys" "limit" "I" (.int (16 : Int32)) ∧ Fld Z h r0 "com/example/upper_falls/upperfalls/HeldKeys" "used" "I" (.int (0 : Int32)) ∧ Fld Z h r0 "com/example/upper_falls/upperfalls/HeldKeys" "freeCount" "I" (.int (0 : Int32)) ∧ own_AJ Z h x0 .long 16 (fun _ => (0 : Int64)) ∧ own_AJ Z h x1 .long 16 (fun _ => (0 : Int64)) ∧ own_AJ Z h x2 .long 16 (fun _ => (0 : Int64)) ∧ own_AI Z h x3 .int 16 (fun _ => (0 : Int32)) ∧ own_AI Z h x4 .int 16 (fun _ => (0 : Int32)) ∧ own_AI Z h x5 .int 32 (fun _ => (-1 : Int32))
set_option maxRecDepth 65536 in
set_option maxHeartbeats 40000000 in
theorem rmik (l : Launch) (Z : State) (a0 : Array Value) (hw : ∀ d ∈ tables_1, d.before a0 Z = true) (ws : List Jvm.Cond) (r0 : Addr) (p1 : Int32) (h0 : Heap) (n0 : Nat) (Z0 : n0 ≤ h0.size) (E_r0 : Exa Z h0 r0 "com/example/upper_falls/upperfalls/HeldKeys") (F_hash1 : Fld Z h0 r0 "com/example/upper_falls/upperfalls/HeldKeys" "hash1" "[J" .null) (F_hash2 : Fld Z h0 r0 "com/example/upper_falls/upperfalls/HeldKeys" "hash2" "[J" .null) (F_occurrences : Fld Z h0 r0 "com/example/upper_falls/upperfalls/HeldKeys" "occurrences" "[J" .null) (F_holders : Fld Z h0 r0 "com/example/upper_falls/upperfalls/HeldKeys" "holders" "[I" .null) (F_free : Fld Z h0 r0 "com/example/upper_falls/upperfalls/HeldKeys" "free" "[I" .null) (F_slots : Fld Z h0 r0 "com/example/upper_falls/upperfalls/HeldKeys" "slots" "[I" .null) (F_limit : Fld Z h0 r0 "com/example/upper_falls/upperfalls/HeldKeys" "limit" "I" (.int (0 : Int32))) (F_used : Fld Z h0 r0 "com/example/upper_falls/upperfalls/HeldKeys" "used" "I" (.int (0 : Int32))) (F_freeCount : Fld Z h0 r0 "com/example/upper_falls/upperfalls/HeldKeys" "freeCount" "I" (.int (0 : Int32))) (ha : p1 = (16 : Int32)) (g_r0 : n0 ≤ r0) :
    MetFree l (⟨"com/example/upper_falls/upperfalls/HeldKeys", "<init>", "(I)V"⟩ : MethodName) (head1 (Jvm.Cond.code (⟨"com/example/upper_falls/upperfalls/HeldKeys", "<init>", "(I)V"⟩ : MethodName) prog_13_method_1_code 3 none :: ws) ({ frames := 3, cells := 6, slots := 112, locals := 41 } : Room)) (fun a U => a = #[(.ref r0), (.int p1)] ∧ Z.Warmed39 U.vm ∧ U.heap = h0) (fun _ _ _ _ _ => True) (fun _ U o U' => ∃ v L, o = .returned v ∧ Qik Z r0 p1 h0 n0 v U'.heap L ∧ FrameEnd U o U' L ({ frames := 3, cells := 6, slots := 112, locals := 41 } : Room).cells ({ frames := 3, cells := 6, slots := 112, locals := 41 } : Room).slots) := by
  refine MetFree.of_bodySF (plainFor_of_name pn9) hisR ?_
  intro p e s m args below meth c s₁ Bd hml0 hP hK
  obtain ⟨rfl, hZ, hh⟩ := hP
  have hx := Bd.exec
  have hby := Bd.bytes
  have hml : c.maxLocals = 3 := hml0
  have hown : s.vm.findClass "com/example/upper_falls/upperfalls/HeldKeys" = some m.cls := findClass_of_methodNamed Bd.named
  have hnm := (name_of_methodNamed Bd.named Bd.method).1
  have X0 : Stand p l e ({ frames := 3, cells := 6, slots := 112, locals := 41 } : Room) s m #[(.ref r0), (.int p1)] below meth c s₁ [] 0 0 := Stand.of_body Bd
  have e0 : s₁.heap = h0 := by rw [← hh, Bd.state]; rfl
  have N0 := Fr.nil n0
  have K0 : Keep h0 h0 [r0] := Keep.refl h0 _
  show own_Go p e below s (Qik Z r0 p1 h0 n0) ({ frames := 3, cells := 6, slots := 112, locals := 41 } : Room).cells ({ frames := 3, cells := 6, slots := 112, locals := 41 } : Room).slots (s₁.setTop (entryFrame m #[(.ref r0), (.int p1)] 3))
  refine own_go (fun t k => castTop (ef_ik m r0 p1) k) ?_
  obtain ⟨T101, X101, e101, st101⟩ := initO X0 hx hZ hown (own_wd hw 31 rfl) (own_wd hw 17 rfl) (own_wd hw 18 rfl) e0 (g := (mkF m 1 #[.val (.ref r0), .val (.int (16 : Int32)), .unset] [(.ref r0)])) rfl (by rw [hml]; rfl) rfl (hb hby d5_1) (by decide) (W := 0) (by show 2 * 0 + _ ≤ _; exact Nat.le_of_eq rfl) (by decide)
  obtain ⟨T102, h102, X102, e102, W102, st102⟩ := putF X101 hx hZ hown (host := "") (Or.inl (own_wd hw 32 rfl)) Via.refl e101 F_limit E_r0 (Or.inr ⟨(own_wd hw 33 rfl), rfl, hnm⟩) (own_wd hw 26 rfl) (ty := .int) (by decide) rfl rfl (g := (mkF m 6 #[.val (.ref r0), .val (.int (16 : Int32)), .unset] [(.int (16 : Int32)), (.ref r0)])) rfl rfl (hb hby d5_6)
  have F103 := E_r0.wr W102
  have F104 := F_hash1.other W102 (Or.inr (slot_ne (Or.inl (own_wd hw 40 rfl)) (Or.inr (own_wd hw 33 rfl)) (by decide) (t := (.array .long)) (t' := .int) (by decide) (by decide)))
  have F105 := F_hash2.other W102 (Or.inr (slot_ne (Or.inl (own_wd hw 42 rfl)) (Or.inr (own_wd hw 33 rfl)) (by decide) (t := (.array .long)) (t' := .int) (by decide) (by decide)))
  have F106 := F_occurrences.other W102 (Or.inr (slot_ne (Or.inl (own_wd hw 44 rfl)) (Or.inr (own_wd hw 33 rfl)) (by decide) (t := (.array .long)) (t' := .int) (by decide) (by decide)))
  have F107 := F_holders.other W102 (Or.inr (slot_ne (Or.inl (own_wd hw 47 rfl)) (Or.inr (own_wd hw 33 rfl)) (by decide) (t := (.array .int)) (t' := .int) (by decide) (by decide)))
  have F108 := F_free.other W102 (Or.inr (slot_ne (Or.inl (own_wd hw 49 rfl)) (Or.inr (own_wd hw 33 rfl)) (by decide) (t := (.array .int)) (t' := .int) (by decide) (by decide)))
  have F109 := F_slots.other W102 (Or.inr (slot_ne (Or.inl (own_wd hw 70 rfl)) (Or.inr (own_wd hw 33 rfl)) (by decide) (t := (.array .int)) (t' := .int) (by decide) (by decide)))
  have F110 := F_limit.same W102
  have F111 := F_used.other W102 (Or.inr (slot_ne (Or.inl (own_wd hw 93 rfl)) (Or.inr (own_wd hw 33 rfl)) (by decide) (t := .int) (t' := .int) (by decide) (by decide)))
  have F112 := F_freeCount.other W102 (Or.inr (slot_ne (Or.inl (own_wd hw 91 rfl)) (Or.inr (own_wd hw 33 rfl)) (by decide) (t := .int) (t' := .int) (by decide) (by decide)))
  have Z113 : n0 ≤ h102.size := Nat.le_trans Z0 (Keep.of_wr W102).1
  have K114 : Keep h0 h102 [r0] := K0.wr W102 (Or.inl (List.mem_of_getElem? (i := 0) rfl))
  have N115 := Fr.snoc X102 N0 g_r0
  obtain ⟨_, _, ⟨T116, L116, k116, n116⟩, -, X116, ⟨Lc116, hQ116, l116, y116, z116⟩, st116⟩ := Jvm.LawKit.callS X102 hx (y := (⟨"java/lang/Math", "min", "(II)I"⟩ : MethodName)) hown (mvT hZ (own_wd hw 34 rfl)) (mvT hZ (own_wd hw 35 rfl)) (mvT hZ (own_wd hw 36 rfl)) (mvT hZ (own_wd hw 37 rfl)) (by decide) (backOf (W := 0) (rmmn l Z a0 hw [] (16 : Int32) (16 : Int32) h102 n0 Z113 (by first | assumption | decide : (16 : Int32) = (16 : Int32)) (by first | assumption | decide : (16 : Int32) = (16 : Int32))) hZ (own_wd hw 37 rfl) (own_wd hw 36 rfl) (by decide) (by decide)) (g := (mkF m 12 #[.val (.ref r0), .val (.int (16 : Int32)), .unset] [(.int (16 : Int32)), (.int (16 : Int32))])) rfl (by rw [hml]; rfl) (argsL := [(.int (16 : Int32)), (.int (16 : Int32))]) (rest := []) (lenOf pd7 rfl) rfl (by show 2 * 0 + _ ≤ _; exact Nat.le_of_eq rfl) (hb hby d5_12) (fun _ _ => ⟨rfl, e102, (by decide : 0 + 0 ≤ _), (by decide : 0 + 0 ≤ _)⟩)
  dsimp only [Pt.U, Pt.locs, Pt.cells, Pt.slots] at X116 l116 y116 z116 st116 hQ116
  subst l116 y116 z116
  obtain ⟨rfl, N116q, e116⟩ := hQ116
  have N116 := Fr.app N115 N116q
  obtain ⟨T117, h117, k117, X117, e117, E117, A117, st117⟩ := newP X116 hx hZ (own_wd hw 38 rfl) e116 (g := (mkF m 18 #[.val (.ref r0), .val (.int (16 : Int32)), .val (.int (16 : Int32))] [(.int (16 : Int32)), (.ref r0)])) rfl (hb hby d5_18) rfl (by decide) (cap := 16) (by decide) (by decide) (by decide) (by decide)
  obtain ⟨b117, g117⟩ : ∃ z, z = h102.size := ⟨_, rfl⟩
  rw [← g117] at A117 st117
  have ne_r0_b117 : r0 ≠ b117 := Nat.ne_of_lt (Nat.lt_of_lt_of_le F103.lt (Nat.le_of_eq g117.symm))
  have g_b117 : n0 ≤ b117 := Nat.le_trans Z113 (Nat.le_of_eq g117.symm)
  have sz_b117 : h0.size ≤ b117 := Nat.le_trans K114.1 (Nat.le_of_eq g117.symm)
  have F118 := F103.ext E117
  have F119 := F104.ext E117
  have F120 := F105.ext E117
  have F121 := F106.ext E117
  have F122 := F107.ext E117
  have F123 := F108.ext E117
  have F124 := F109.ext E117
  have F125 := F110.ext E117
  have F126 := F111.ext E117
  have F127 := F112.ext E117
  have Z128 : n0 ≤ h117.size := Nat.le_trans Z113 E117.1
  have K129 : Keep h0 h117 [r0] := K114.ext E117
  obtain ⟨v1, hv1⟩ : ∃ z : Nat → Int64, z = (fun _ => (0 : Int64)) := ⟨_, rfl⟩
  have F130 : own_AJ Z h117 b117 .long 16 v1 := by rw [hv1]; exact own_AJ.new A117 rfl (by decide)
  obtain ⟨T131, h131, X131, e131, W131, st131⟩ := putF X117 hx hZ hown (host := "") (Or.inl (own_wd hw 39 rfl)) Via.refl e117 F119 F118 (Or.inl (own_wd hw 40 rfl)) (own_wd hw 26 rfl) (ty := (.array .long)) (by decide) rfl rfl (g := (mkF m 20 #[.val (.ref r0), .val (.int (16 : Int32)), .val (.int (16 : Int32))] [(.ref b117), (.ref r0)])) rfl rfl (hb hby d5_20)
  have F132 := F118.wr W131
  have F133 := F119.same W131
  have F134 := F120.other W131 (Or.inr (slot_ne (Or.inl (own_wd hw 42 rfl)) (Or.inl (own_wd hw 40 rfl)) (by decide) (t := (.array .long)) (t' := (.array .long)) (by decide) (by decide)))
  have F135 := F121.other W131 (Or.inr (slot_ne (Or.inl (own_wd hw 44 rfl)) (Or.inl (own_wd hw 40 rfl)) (by decide) (t := (.array .long)) (t' := (.array .long)) (by decide) (by decide)))
  have F136 := F122.other W131 (Or.inr (slot_ne (Or.inl (own_wd hw 47 rfl)) (Or.inl (own_wd hw 40 rfl)) (by decide) (t := (.array .int)) (t' := (.array .long)) (by decide) (by decide)))
  have F137 := F123.other W131 (Or.inr (slot_ne (Or.inl (own_wd hw 49 rfl)) (Or.inl (own_wd hw 40 rfl)) (by decide) (t := (.array .int)) (t' := (.array .long)) (by decide) (by decide)))
  have F138 := F124.other W131 (Or.inr (slot_ne (Or.inl (own_wd hw 70 rfl)) (Or.inl (own_wd hw 40 rfl)) (by decide) (t := (.array .int)) (t' := (.array .long)) (by decide) (by decide)))
  have F139 := F125.other W131 (Or.inr (slot_ne (Or.inr (own_wd hw 33 rfl)) (Or.inl (own_wd hw 40 rfl)) (by decide) (t := .int) (t' := (.array .long)) (by decide) (by decide)))
  have F140 := F126.other W131 (Or.inr (slot_ne (Or.inl (own_wd hw 93 rfl)) (Or.inl (own_wd hw 40 rfl)) (by decide) (t := .int) (t' := (.array .long)) (by decide) (by decide)))
  have F141 := F127.other W131 (Or.inr (slot_ne (Or.inl (own_wd hw 91 rfl)) (Or.inl (own_wd hw 40 rfl)) (by decide) (t := .int) (t' := (.array .long)) (by decide) (by decide)))
  have F142 := F130.other W131 (Ne.symm ne_r0_b117)
  have Z143 : n0 ≤ h131.size := Nat.le_trans Z128 (Keep.of_wr W131).1
  have K144 : Keep h0 h131 [r0] := K129.wr W131 (Or.inl (List.mem_of_getElem? (i := 0) rfl))
  have N145 := Fr.snoc X131 N116 g_r0
  obtain ⟨T146, h146, k146, X146, e146, E146, A146, st146⟩ := newP X131 hx hZ (own_wd hw 38 rfl) e131 (g := (mkF m 25 #[.val (.ref r0), .val (.int (16 : Int32)), .val (.int (16 : Int32))] [(.int (16 : Int32)), (.ref r0)])) rfl (hb hby d5_25) rfl (by decide) (cap := 16) (by decide) (by decide) (by decide) (by decide)
  obtain ⟨b146, g146⟩ : ∃ z, z = h131.size := ⟨_, rfl⟩
  rw [← g146] at A146 st146
  have ne_r0_b146 : r0 ≠ b146 := Nat.ne_of_lt (Nat.lt_of_lt_of_le F132.lt (Nat.le_of_eq g146.symm))
  have ne_b117_b146 : b117 ≠ b146 := Nat.ne_of_lt (Nat.lt_of_lt_of_le F142.lt (Nat.le_of_eq g146.symm))
  have g_b146 : n0 ≤ b146 := Nat.le_trans Z143 (Nat.le_of_eq g146.symm)
  have sz_b146 : h0.size ≤ b146 := Nat.le_trans K144.1 (Nat.le_of_eq g146.symm)
  have F147 := F132.ext E146
  have F148 := F133.ext E146
  have F149 := F134.ext E146
  have F150 := F135.ext E146
  have F151 := F136.ext E146
  have F152 := F137.ext E146
  have F153 := F138.ext E146
  have F154 := F139.ext E146
  have F155 := F140.ext E146
  have F156 := F141.ext E146
  have F157 := F142.ext E146
  have Z158 : n0 ≤ h146.size := Nat.le_trans Z143 E146.1
  have K159 : Keep h0 h146 [r0] := K144.ext E146
  obtain ⟨v2, hv2⟩ : ∃ z : Nat → Int64, z = (fun _ => (0 : Int64)) := ⟨_, rfl⟩
  have F160 : own_AJ Z h146 b146 .long 16 v2 := by rw [hv2]; exact own_AJ.new A146 rfl (by decide)
  obtain ⟨T161, h161, X161, e161, W161, st161⟩ := putF X146 hx hZ hown (host := "") (Or.inl (own_wd hw 41 rfl)) Via.refl e146 F149 F147 (Or.inl (own_wd hw 42 rfl)) (own_wd hw 26 rfl) (ty := (.array .long)) (by decide) rfl rfl (g := (mkF m 27 #[.val (.ref r0), .val (.int (16 : Int32)), .val (.int (16 : Int32))] [(.ref b146), (.ref r0)])) rfl rfl (hb hby d5_27)
  have F162 := F147.wr W161
  have F163 := F148.other W161 (Or.inr (slot_ne (Or.inl (own_wd hw 40 rfl)) (Or.inl (own_wd hw 42 rfl)) (by decide) (t := (.array .long)) (t' := (.array .long)) (by decide) (by decide)))
  have F164 := F149.same W161
  have F165 := F150.other W161 (Or.inr (slot_ne (Or.inl (own_wd hw 44 rfl)) (Or.inl (own_wd hw 42 rfl)) (by decide) (t := (.array .long)) (t' := (.array .long)) (by decide) (by decide)))
  have F166 := F151.other W161 (Or.inr (slot_ne (Or.inl (own_wd hw 47 rfl)) (Or.inl (own_wd hw 42 rfl)) (by decide) (t := (.array .int)) (t' := (.array .long)) (by decide) (by decide)))
  have F167 := F152.other W161 (Or.inr (slot_ne (Or.inl (own_wd hw 49 rfl)) (Or.inl (own_wd hw 42 rfl)) (by decide) (t := (.array .int)) (t' := (.array .long)) (by decide) (by decide)))
  have F168 := F153.other W161 (Or.inr (slot_ne (Or.inl (own_wd hw 70 rfl)) (Or.inl (own_wd hw 42 rfl)) (by decide) (t := (.array .int)) (t' := (.array .long)) (by decide) (by decide)))
  have F169 := F154.other W161 (Or.inr (slot_ne (Or.inr (own_wd hw 33 rfl)) (Or.inl (own_wd hw 42 rfl)) (by decide) (t := .int) (t' := (.array .long)) (by decide) (by decide)))
  have F170 := F155.other W161 (Or.inr (slot_ne (Or.inl (own_wd hw 93 rfl)) (Or.inl (own_wd hw 42 rfl)) (by decide) (t := .int) (t' := (.array .long)) (by decide) (by decide)))
  have F171 := F156.other W161 (Or.inr (slot_ne (Or.inl (own_wd hw 91 rfl)) (Or.inl (own_wd hw 42 rfl)) (by decide) (t := .int) (t' := (.array .long)) (by decide) (by decide)))
  have F172 := F157.other W161 (Ne.symm ne_r0_b117)
  have F173 := F160.other W161 (Ne.symm ne_r0_b146)
  have Z174 : n0 ≤ h161.size := Nat.le_trans Z158 (Keep.of_wr W161).1
  have K175 : Keep h0 h161 [r0] := K159.wr W161 (Or.inl (List.mem_of_getElem? (i := 0) rfl))
  have N176 := Fr.snoc X161 N145 g_r0
  obtain ⟨T177, h177, k177, X177, e177, E177, A177, st177⟩ := newP X161 hx hZ (own_wd hw 38 rfl) e161 (g := (mkF m 32 #[.val (.ref r0), .val (.int (16 : Int32)), .val (.int (16 : Int32))] [(.int (16 : Int32)), (.ref r0)])) rfl (hb hby d5_32) rfl (by decide) (cap := 16) (by decide) (by decide) (by decide) (by decide)
  obtain ⟨b177, g177⟩ : ∃ z, z = h161.size := ⟨_, rfl⟩
  rw [← g177] at A177 st177
  have ne_r0_b177 : r0 ≠ b177 := Nat.ne_of_lt (Nat.lt_of_lt_of_le F162.lt (Nat.le_of_eq g177.symm))
  have ne_b117_b177 : b117 ≠ b177 := Nat.ne_of_lt (Nat.lt_of_lt_of_le F172.lt (Nat.le_of_eq g177.symm))
  have ne_b146_b177 : b146 ≠ b177 := Nat.ne_of_lt (Nat.lt_of_lt_of_le F173.lt (Nat.le_of_eq g177.symm))
  have g_b177 : n0 ≤ b177 := Nat.le_trans Z174 (Nat.le_of_eq g177.symm)
  have sz_b177 : h0.size ≤ b177 := Nat.le_trans K175.1 (Nat.le_of_eq g177.symm)
  have F178 := F162.ext E177
  have F179 := F163.ext E177
  have F180 := F164.ext E177
  have F181 := F165.ext E177
  have F182 := F166.ext E177
  have F183 := F167.ext E177
  have F184 := F168.ext E177
  have F185 := F169.ext E177
  have F186 := F170.ext E177
  have F187 := F171.ext E177
  have F188 := F172.ext E177
  have F189 := F173.ext E177
  have Z190 : n0 ≤ h177.size := Nat.le_trans Z174 E177.1
  have K191 : Keep h0 h177 [r0] := K175.ext E177
  obtain ⟨v3, hv3⟩ : ∃ z : Nat → Int64, z = (fun _ => (0 : Int64)) := ⟨_, rfl⟩
  have F192 : own_AJ Z h177 b177 .long 16 v3 := by rw [hv3]; exact own_AJ.new A177 rfl (by decide)
  obtain ⟨T193, h193, X193, e193, W193, st193⟩ := putF X177 hx hZ hown (host := "") (Or.inl (own_wd hw 43 rfl)) Via.refl e177 F181 F178 (Or.inl (own_wd hw 44 rfl)) (own_wd hw 26 rfl) (ty := (.array .long)) (by decide) rfl rfl (g := (mkF m 34 #[.val (.ref r0), .val (.int (16 : Int32)), .val (.int (16 : Int32))] [(.ref b177), (.ref r0)])) rfl rfl (hb hby d5_34)
  have F194 := F178.wr W193
  have F195 := F179.other W193 (Or.inr (slot_ne (Or.inl (own_wd hw 40 rfl)) (Or.inl (own_wd hw 44 rfl)) (by decide) (t := (.array .long)) (t' := (.array .long)) (by decide) (by decide)))
  have F196 := F180.other W193 (Or.inr (slot_ne (Or.inl (own_wd hw 42 rfl)) (Or.inl (own_wd hw 44 rfl)) (by decide) (t := (.array .long)) (t' := (.array .long)) (by decide) (by decide)))
  have F197 := F181.same W193
  have F198 := F182.other W193 (Or.inr (slot_ne (Or.inl (own_wd hw 47 rfl)) (Or.inl (own_wd hw 44 rfl)) (by decide) (t := (.array .int)) (t' := (.array .long)) (by decide) (by decide)))
  have F199 := F183.other W193 (Or.inr (slot_ne (Or.inl (own_wd hw 49 rfl)) (Or.inl (own_wd hw 44 rfl)) (by decide) (t := (.array .int)) (t' := (.array .long)) (by decide) (by decide)))
  have F200 := F184.other W193 (Or.inr (slot_ne (Or.inl (own_wd hw 70 rfl)) (Or.inl (own_wd hw 44 rfl)) (by decide) (t := (.array .int)) (t' := (.array .long)) (by decide) (by decide)))
  have F201 := F185.other W193 (Or.inr (slot_ne (Or.inr (own_wd hw 33 rfl)) (Or.inl (own_wd hw 44 rfl)) (by decide) (t := .int) (t' := (.array .long)) (by decide) (by decide)))
  have F202 := F186.other W193 (Or.inr (slot_ne (Or.inl (own_wd hw 93 rfl)) (Or.inl (own_wd hw 44 rfl)) (by decide) (t := .int) (t' := (.array .long)) (by decide) (by decide)))
  have F203 := F187.other W193 (Or.inr (slot_ne (Or.inl (own_wd hw 91 rfl)) (Or.inl (own_wd hw 44 rfl)) (by decide) (t := .int) (t' := (.array .long)) (by decide) (by decide)))
  have F204 := F188.other W193 (Ne.symm ne_r0_b117)
  have F205 := F189.other W193 (Ne.symm ne_r0_b146)
  have F206 := F192.other W193 (Ne.symm ne_r0_b177)
  have Z207 : n0 ≤ h193.size := Nat.le_trans Z190 (Keep.of_wr W193).1
  have K208 : Keep h0 h193 [r0] := K191.wr W193 (Or.inl (List.mem_of_getElem? (i := 0) rfl))
  have N209 := Fr.snoc X193 N176 g_r0
  obtain ⟨T210, h210, k210, X210, e210, E210, A210, st210⟩ := newP X193 hx hZ (own_wd hw 45 rfl) e193 (g := (mkF m 39 #[.val (.ref r0), .val (.int (16 : Int32)), .val (.int (16 : Int32))] [(.int (16 : Int32)), (.ref r0)])) rfl (hb hby d5_39) rfl (by decide) (cap := 16) (by decide) (by decide) (by decide) (by decide)
  obtain ⟨b210, g210⟩ : ∃ z, z = h193.size := ⟨_, rfl⟩
  rw [← g210] at A210 st210
  have ne_r0_b210 : r0 ≠ b210 := Nat.ne_of_lt (Nat.lt_of_lt_of_le F194.lt (Nat.le_of_eq g210.symm))
  have ne_b117_b210 : b117 ≠ b210 := Nat.ne_of_lt (Nat.lt_of_lt_of_le F204.lt (Nat.le_of_eq g210.symm))
  have ne_b146_b210 : b146 ≠ b210 := Nat.ne_of_lt (Nat.lt_of_lt_of_le F205.lt (Nat.le_of_eq g210.symm))
  have ne_b177_b210 : b177 ≠ b210 := Nat.ne_of_lt (Nat.lt_of_lt_of_le F206.lt (Nat.le_of_eq g210.symm))
  have g_b210 : n0 ≤ b210 := Nat.le_trans Z207 (Nat.le_of_eq g210.symm)
  have sz_b210 : h0.size ≤ b210 := Nat.le_trans K208.1 (Nat.le_of_eq g210.symm)
  have F211 := F194.ext E210
  have F212 := F195.ext E210
  have F213 := F196.ext E210
  have F214 := F197.ext E210
  have F215 := F198.ext E210
  have F216 := F199.ext E210
  have F217 := F200.ext E210
  have F218 := F201.ext E210
  have F219 := F202.ext E210
  have F220 := F203.ext E210
  have F221 := F204.ext E210
  have F222 := F205.ext E210
  have F223 := F206.ext E210
  have Z224 : n0 ≤ h210.size := Nat.le_trans Z207 E210.1
  have K225 : Keep h0 h210 [r0] := K208.ext E210
  obtain ⟨v4, hv4⟩ : ∃ z : Nat → Int32, z = (fun _ => (0 : Int32)) := ⟨_, rfl⟩
  have F226 : own_AI Z h210 b210 .int 16 v4 := by rw [hv4]; exact own_AI.new A210 rfl (by decide)
  obtain ⟨T227, h227, X227, e227, W227, st227⟩ := putF X210 hx hZ hown (host := "") (Or.inl (own_wd hw 46 rfl)) Via.refl e210 F215 F211 (Or.inl (own_wd hw 47 rfl)) (own_wd hw 26 rfl) (ty := (.array .int)) (by decide) rfl rfl (g := (mkF m 41 #[.val (.ref r0), .val (.int (16 : Int32)), .val (.int (16 : Int32))] [(.ref b210), (.ref r0)])) rfl rfl (hb hby d5_41)
  have F228 := F211.wr W227
  have F229 := F212.other W227 (Or.inr (slot_ne (Or.inl (own_wd hw 40 rfl)) (Or.inl (own_wd hw 47 rfl)) (by decide) (t := (.array .long)) (t' := (.array .int)) (by decide) (by decide)))
  have F230 := F213.other W227 (Or.inr (slot_ne (Or.inl (own_wd hw 42 rfl)) (Or.inl (own_wd hw 47 rfl)) (by decide) (t := (.array .long)) (t' := (.array .int)) (by decide) (by decide)))
  have F231 := F214.other W227 (Or.inr (slot_ne (Or.inl (own_wd hw 44 rfl)) (Or.inl (own_wd hw 47 rfl)) (by decide) (t := (.array .long)) (t' := (.array .int)) (by decide) (by decide)))
  have F232 := F215.same W227
  have F233 := F216.other W227 (Or.inr (slot_ne (Or.inl (own_wd hw 49 rfl)) (Or.inl (own_wd hw 47 rfl)) (by decide) (t := (.array .int)) (t' := (.array .int)) (by decide) (by decide)))
  have F234 := F217.other W227 (Or.inr (slot_ne (Or.inl (own_wd hw 70 rfl)) (Or.inl (own_wd hw 47 rfl)) (by decide) (t := (.array .int)) (t' := (.array .int)) (by decide) (by decide)))
  have F235 := F218.other W227 (Or.inr (slot_ne (Or.inr (own_wd hw 33 rfl)) (Or.inl (own_wd hw 47 rfl)) (by decide) (t := .int) (t' := (.array .int)) (by decide) (by decide)))
  have F236 := F219.other W227 (Or.inr (slot_ne (Or.inl (own_wd hw 93 rfl)) (Or.inl (own_wd hw 47 rfl)) (by decide) (t := .int) (t' := (.array .int)) (by decide) (by decide)))
  have F237 := F220.other W227 (Or.inr (slot_ne (Or.inl (own_wd hw 91 rfl)) (Or.inl (own_wd hw 47 rfl)) (by decide) (t := .int) (t' := (.array .int)) (by decide) (by decide)))
  have F238 := F221.other W227 (Ne.symm ne_r0_b117)
  have F239 := F222.other W227 (Ne.symm ne_r0_b146)
  have F240 := F223.other W227 (Ne.symm ne_r0_b177)
  have F241 := F226.other W227 (Ne.symm ne_r0_b210)
  have Z242 : n0 ≤ h227.size := Nat.le_trans Z224 (Keep.of_wr W227).1
  have K243 : Keep h0 h227 [r0] := K225.wr W227 (Or.inl (List.mem_of_getElem? (i := 0) rfl))
  have N244 := Fr.snoc X227 N209 g_r0
  obtain ⟨T245, h245, k245, X245, e245, E245, A245, st245⟩ := newP X227 hx hZ (own_wd hw 45 rfl) e227 (g := (mkF m 46 #[.val (.ref r0), .val (.int (16 : Int32)), .val (.int (16 : Int32))] [(.int (16 : Int32)), (.ref r0)])) rfl (hb hby d5_46) rfl (by decide) (cap := 16) (by decide) (by decide) (by decide) (by decide)
  obtain ⟨b245, g245⟩ : ∃ z, z = h227.size := ⟨_, rfl⟩
  rw [← g245] at A245 st245
  have ne_r0_b245 : r0 ≠ b245 := Nat.ne_of_lt (Nat.lt_of_lt_of_le F228.lt (Nat.le_of_eq g245.symm))
  have ne_b117_b245 : b117 ≠ b245 := Nat.ne_of_lt (Nat.lt_of_lt_of_le F238.lt (Nat.le_of_eq g245.symm))
  have ne_b146_b245 : b146 ≠ b245 := Nat.ne_of_lt (Nat.lt_of_lt_of_le F239.lt (Nat.le_of_eq g245.symm))
  have ne_b177_b245 : b177 ≠ b245 := Nat.ne_of_lt (Nat.lt_of_lt_of_le F240.lt (Nat.le_of_eq g245.symm))
  have ne_b210_b245 : b210 ≠ b245 := Nat.ne_of_lt (Nat.lt_of_lt_of_le F241.lt (Nat.le_of_eq g245.symm))
  have g_b245 : n0 ≤ b245 := Nat.le_trans Z242 (Nat.le_of_eq g245.symm)
  have sz_b245 : h0.size ≤ b245 := Nat.le_trans K243.1 (Nat.le_of_eq g245.symm)
  have F246 := F228.ext E245
  have F247 := F229.ext E245
  have F248 := F230.ext E245
  have F249 := F231.ext E245
  have F250 := F232.ext E245
  have F251 := F233.ext E245
  have F252 := F234.ext E245
  have F253 := F235.ext E245
  have F254 := F236.ext E245
  have F255 := F237.ext E245
  have F256 := F238.ext E245
  have F257 := F239.ext E245
  have F258 := F240.ext E245
  have F259 := F241.ext E245
  have Z260 : n0 ≤ h245.size := Nat.le_trans Z242 E245.1
  have K261 : Keep h0 h245 [r0] := K243.ext E245
  obtain ⟨v5, hv5⟩ : ∃ z : Nat → Int32, z = (fun _ => (0 : Int32)) := ⟨_, rfl⟩
  have F262 : own_AI Z h245 b245 .int 16 v5 := by rw [hv5]; exact own_AI.new A245 rfl (by decide)
  obtain ⟨T263, h263, X263, e263, W263, st263⟩ := putF X245 hx hZ hown (host := "") (Or.inl (own_wd hw 48 rfl)) Via.refl e245 F251 F246 (Or.inl (own_wd hw 49 rfl)) (own_wd hw 26 rfl) (ty := (.array .int)) (by decide) rfl rfl (g := (mkF m 48 #[.val (.ref r0), .val (.int (16 : Int32)), .val (.int (16 : Int32))] [(.ref b245), (.ref r0)])) rfl rfl (hb hby d5_48)
  have F264 := F246.wr W263
  have F265 := F247.other W263 (Or.inr (slot_ne (Or.inl (own_wd hw 40 rfl)) (Or.inl (own_wd hw 49 rfl)) (by decide) (t := (.array .long)) (t' := (.array .int)) (by decide) (by decide)))
  have F266 := F248.other W263 (Or.inr (slot_ne (Or.inl (own_wd hw 42 rfl)) (Or.inl (own_wd hw 49 rfl)) (by decide) (t := (.array .long)) (t' := (.array .int)) (by decide) (by decide)))
  have F267 := F249.other W263 (Or.inr (slot_ne (Or.inl (own_wd hw 44 rfl)) (Or.inl (own_wd hw 49 rfl)) (by decide) (t := (.array .long)) (t' := (.array .int)) (by decide) (by decide)))
  have F268 := F250.other W263 (Or.inr (slot_ne (Or.inl (own_wd hw 47 rfl)) (Or.inl (own_wd hw 49 rfl)) (by decide) (t := (.array .int)) (t' := (.array .int)) (by decide) (by decide)))
  have F269 := F251.same W263
  have F270 := F252.other W263 (Or.inr (slot_ne (Or.inl (own_wd hw 70 rfl)) (Or.inl (own_wd hw 49 rfl)) (by decide) (t := (.array .int)) (t' := (.array .int)) (by decide) (by decide)))
  have F271 := F253.other W263 (Or.inr (slot_ne (Or.inr (own_wd hw 33 rfl)) (Or.inl (own_wd hw 49 rfl)) (by decide) (t := .int) (t' := (.array .int)) (by decide) (by decide)))
  have F272 := F254.other W263 (Or.inr (slot_ne (Or.inl (own_wd hw 93 rfl)) (Or.inl (own_wd hw 49 rfl)) (by decide) (t := .int) (t' := (.array .int)) (by decide) (by decide)))
  have F273 := F255.other W263 (Or.inr (slot_ne (Or.inl (own_wd hw 91 rfl)) (Or.inl (own_wd hw 49 rfl)) (by decide) (t := .int) (t' := (.array .int)) (by decide) (by decide)))
  have F274 := F256.other W263 (Ne.symm ne_r0_b117)
  have F275 := F257.other W263 (Ne.symm ne_r0_b146)
  have F276 := F258.other W263 (Ne.symm ne_r0_b177)
  have F277 := F259.other W263 (Ne.symm ne_r0_b210)
  have F278 := F262.other W263 (Ne.symm ne_r0_b245)
  have Z279 : n0 ≤ h263.size := Nat.le_trans Z260 (Keep.of_wr W263).1
  have K280 : Keep h0 h263 [r0] := K261.wr W263 (Or.inl (List.mem_of_getElem? (i := 0) rfl))
  have N281 := Fr.snoc X263 N244 g_r0
  obtain ⟨_, _, ⟨T282, L282, k282, n282⟩, -, X282, ⟨Lc282, hQ282, l282, y282, z282⟩, st282⟩ := Jvm.LawKit.callS X263 hx (y := (⟨"com/example/upper_falls/upperfalls/HeldKeys", "emptySlots", "(I)[I"⟩ : MethodName)) hown (mvT hZ (own_wd hw 50 rfl)) (mvT hZ (own_wd hw 51 rfl)) (mvT hZ (own_wd hw 27 rfl)) (mvT hZ (own_wd hw 52 rfl)) (by decide) (backOf (W := 1) (rmem l Z a0 hw [] (16 : Int32) h263 n0 Z279 (by first | assumption | decide : (16 : Int32) = (16 : Int32))) hZ (own_wd hw 52 rfl) (own_wd hw 27 rfl) (by decide) (by decide)) (g := (mkF m 53 #[.val (.ref r0), .val (.int (16 : Int32)), .val (.int (16 : Int32))] [(.int (16 : Int32)), (.ref r0)])) rfl (by rw [hml]; rfl) (argsL := [(.int (16 : Int32))]) (rest := [(.ref r0)]) (lenOf pd10 rfl) rfl (by show 2 * 0 + _ ≤ _; exact Nat.le_of_eq rfl) (hb hby d5_53) (fun _ _ => ⟨rfl, e263, (by decide : 5 + 1 ≤ _), (by decide : 80 + 32 ≤ _)⟩)
  dsimp only [Pt.U, Pt.locs, Pt.cells, Pt.slots] at X282 l282 y282 z282 st282 hQ282
  subst l282 y282 z282
  obtain ⟨b282_0, rfl, N282q, K282q, F282_0, F282_1⟩ := hQ282
  have F283 := F264.keep K282q
  have F284 := F265.keep K282q nin0
  have F285 := F266.keep K282q nin0
  have F286 := F267.keep K282q nin0
  have F287 := F268.keep K282q nin0
  have F288 := F269.keep K282q nin0
  have F289 := F270.keep K282q nin0
  have F290 := F271.keep K282q nin0
  have F291 := F272.keep K282q nin0
  have F292 := F273.keep K282q nin0
  have F293 := F274.keep K282q nin0
  have F294 := F275.keep K282q nin0
  have F295 := F276.keep K282q nin0
  have F296 := F277.keep K282q nin0
  have F297 := F278.keep K282q nin0
  have Z298 : n0 ≤ T282.heap.size := Nat.le_trans Z279 K282q.1
  have K299 : Keep h0 T282.heap [r0] := K280.trans K282q all0
  have g_b282_0 : n0 ≤ b282_0 := Nat.le_trans Z279 F282_0
  have sz_b282_0 : h0.size ≤ b282_0 := Nat.le_trans K280.1 F282_0
  have ne_r0_b282_0 : r0 ≠ b282_0 := Nat.ne_of_lt (Nat.lt_of_lt_of_le F264.lt F282_0)
  have ne_b117_b282_0 : b117 ≠ b282_0 := Nat.ne_of_lt (Nat.lt_of_lt_of_le F274.lt F282_0)
  have ne_b146_b282_0 : b146 ≠ b282_0 := Nat.ne_of_lt (Nat.lt_of_lt_of_le F275.lt F282_0)
  have ne_b177_b282_0 : b177 ≠ b282_0 := Nat.ne_of_lt (Nat.lt_of_lt_of_le F276.lt F282_0)
  have ne_b210_b282_0 : b210 ≠ b282_0 := Nat.ne_of_lt (Nat.lt_of_lt_of_le F277.lt F282_0)
  have ne_b245_b282_0 : b245 ≠ b282_0 := Nat.ne_of_lt (Nat.lt_of_lt_of_le F278.lt F282_0)
  obtain ⟨v6, hv6⟩ : ∃ z : Nat → Int32, z = (fun _ => (-1 : Int32)) := ⟨_, rfl⟩
  have F282_1n : own_AI Z T282.heap b282_0 .int 32 v6 := by rw [hv6]; exact F282_1
  have N282 := Fr.app N281 N282q
  obtain ⟨T300, h300, X300, e300, W300, st300⟩ := putF X282 hx hZ hown (host := "") (Or.inl (own_wd hw 69 rfl)) Via.refl (rfl : T282.heap = T282.heap) F289 F283 (Or.inl (own_wd hw 70 rfl)) (own_wd hw 26 rfl) (ty := (.array .int)) (by decide) rfl rfl (g := (mkF m 56 #[.val (.ref r0), .val (.int (16 : Int32)), .val (.int (16 : Int32))] [(.ref b282_0), (.ref r0)])) rfl rfl (hb hby d5_56)
  have F301 := F283.wr W300
  have F302 := F284.other W300 (Or.inr (slot_ne (Or.inl (own_wd hw 40 rfl)) (Or.inl (own_wd hw 70 rfl)) (by decide) (t := (.array .long)) (t' := (.array .int)) (by decide) (by decide)))
  have F303 := F285.other W300 (Or.inr (slot_ne (Or.inl (own_wd hw 42 rfl)) (Or.inl (own_wd hw 70 rfl)) (by decide) (t := (.array .long)) (t' := (.array .int)) (by decide) (by decide)))
  have F304 := F286.other W300 (Or.inr (slot_ne (Or.inl (own_wd hw 44 rfl)) (Or.inl (own_wd hw 70 rfl)) (by decide) (t := (.array .long)) (t' := (.array .int)) (by decide) (by decide)))
  have F305 := F287.other W300 (Or.inr (slot_ne (Or.inl (own_wd hw 47 rfl)) (Or.inl (own_wd hw 70 rfl)) (by decide) (t := (.array .int)) (t' := (.array .int)) (by decide) (by decide)))
  have F306 := F288.other W300 (Or.inr (slot_ne (Or.inl (own_wd hw 49 rfl)) (Or.inl (own_wd hw 70 rfl)) (by decide) (t := (.array .int)) (t' := (.array .int)) (by decide) (by decide)))
  have F307 := F289.same W300
  have F308 := F290.other W300 (Or.inr (slot_ne (Or.inr (own_wd hw 33 rfl)) (Or.inl (own_wd hw 70 rfl)) (by decide) (t := .int) (t' := (.array .int)) (by decide) (by decide)))
  have F309 := F291.other W300 (Or.inr (slot_ne (Or.inl (own_wd hw 93 rfl)) (Or.inl (own_wd hw 70 rfl)) (by decide) (t := .int) (t' := (.array .int)) (by decide) (by decide)))
  have F310 := F292.other W300 (Or.inr (slot_ne (Or.inl (own_wd hw 91 rfl)) (Or.inl (own_wd hw 70 rfl)) (by decide) (t := .int) (t' := (.array .int)) (by decide) (by decide)))
  have F311 := F293.other W300 (Ne.symm ne_r0_b117)
  have F312 := F294.other W300 (Ne.symm ne_r0_b146)
  have F313 := F295.other W300 (Ne.symm ne_r0_b177)
  have F314 := F296.other W300 (Ne.symm ne_r0_b210)
  have F315 := F297.other W300 (Ne.symm ne_r0_b245)
  have F316 := F282_1n.other W300 (Ne.symm ne_r0_b282_0)
  have Z317 : n0 ≤ h300.size := Nat.le_trans Z298 (Keep.of_wr W300).1
  have K318 : Keep h0 h300 [r0] := K299.wr W300 (Or.inl (List.mem_of_getElem? (i := 0) rfl))
  have N319 := Fr.snoc X300 N282 g_r0
  have hgo320 : ∀ t, Steps p.tables e below (T300.setTop (mkF m 59 #[.val (.ref r0), .val (.int (16 : Int32)), .val (.int (16 : Int32))] [])) t → Steps p.tables e below (s₁.setTop (mkF m 0 #[.val (.ref r0), .val (.int p1), .unset] [])) t := by
    intro t kt
    show Steps p.tables e below (s₁.setTop (mkF m 0 #[.val (.ref r0), .val (.int p1), .unset] [])) _
    rw [ha]
    show Steps p.tables e below (s₁.setTop (mkF m 0 #[.val (.ref r0), .val (.int (16 : Int32)), .unset] [])) _
    refine XS.aloadN X0.here hx rfl (hb hby d5_0) rfl rfl ?_
    show Steps p.tables e below (s₁.setTop (mkF m 1 #[.val (.ref r0), .val (.int (16 : Int32)), .unset] [(.ref r0)])) _
    refine st101 _ ?_
    show Steps p.tables e below (T101.setTop (mkF m 4 #[.val (.ref r0), .val (.int (16 : Int32)), .unset] [])) _
    refine XS.aloadN X101.here hx rfl (hb hby d5_4) rfl rfl ?_
    refine XS.iloadN X101.here hx rfl (hb hby d5_5) rfl ?_
    show Steps p.tables e below (T101.setTop (mkF m 6 #[.val (.ref r0), .val (.int (16 : Int32)), .unset] [(.int (16 : Int32)), (.ref r0)])) _
    refine st102 _ ?_
    show Steps p.tables e below (T102.setTop (mkF m 9 #[.val (.ref r0), .val (.int (16 : Int32)), .unset] [])) _
    refine XS.bipush X102.here hx rfl (hb hby d5_9) ?_
    refine XS.iloadN X102.here hx rfl (hb hby d5_11) rfl ?_
    show Steps p.tables e below (T102.setTop (mkF m 12 #[.val (.ref r0), .val (.int (16 : Int32)), .unset] [(.int (16 : Int32)), (.int (16 : Int32))])) _
    refine st116 _ ?_
    show Steps p.tables e below (T116.setTop (mkF m 15 #[.val (.ref r0), .val (.int (16 : Int32)), .unset] [(.int (16 : Int32))])) _
    refine XS.istoreN X116.here hx rfl (hb hby d5_15) rfl (l' := #[.val (.ref r0), .val (.int (16 : Int32)), .val (.int (16 : Int32))]) rfl ?_
    show Steps p.tables e below (T116.setTop (mkF m 16 #[.val (.ref r0), .val (.int (16 : Int32)), .val (.int (16 : Int32))] [])) _
    refine XS.aloadN X116.here hx rfl (hb hby d5_16) rfl rfl ?_
    refine XS.iloadN X116.here hx rfl (hb hby d5_17) rfl ?_
    show Steps p.tables e below (T116.setTop (mkF m 18 #[.val (.ref r0), .val (.int (16 : Int32)), .val (.int (16 : Int32))] [(.int (16 : Int32)), (.ref r0)])) _
    refine st117 _ ?_
    show Steps p.tables e below (T117.setTop (mkF m 20 #[.val (.ref r0), .val (.int (16 : Int32)), .val (.int (16 : Int32))] [(.ref b117), (.ref r0)])) _
    refine st131 _ ?_
    show Steps p.tables e below (T131.setTop (mkF m 23 #[.val (.ref r0), .val (.int (16 : Int32)), .val (.int (16 : Int32))] [])) _
    refine XS.aloadN X131.here hx rfl (hb hby d5_23) rfl rfl ?_
    refine XS.iloadN X131.here hx rfl (hb hby d5_24) rfl ?_
    show Steps p.tables e below (T131.setTop (mkF m 25 #[.val (.ref r0), .val (.int (16 : Int32)), .val (.int (16 : Int32))] [(.int (16 : Int32)), (.ref r0)])) _
    refine st146 _ ?_
    show Steps p.tables e below (T146.setTop (mkF m 27 #[.val (.ref r0), .val (.int (16 : Int32)), .val (.int (16 : Int32))] [(.ref b146), (.ref r0)])) _
    refine st161 _ ?_
    show Steps p.tables e below (T161.setTop (mkF m 30 #[.val (.ref r0), .val (.int (16 : Int32)), .val (.int (16 : Int32))] [])) _
    refine XS.aloadN X161.here hx rfl (hb hby d5_30) rfl rfl ?_
    refine XS.iloadN X161.here hx rfl (hb hby d5_31) rfl ?_
    show Steps p.tables e below (T161.setTop (mkF m 32 #[.val (.ref r0), .val (.int (16 : Int32)), .val (.int (16 : Int32))] [(.int (16 : Int32)), (.ref r0)])) _
    refine st177 _ ?_
    show Steps p.tables e below (T177.setTop (mkF m 34 #[.val (.ref r0), .val (.int (16 : Int32)), .val (.int (16 : Int32))] [(.ref b177), (.ref r0)])) _
    refine st193 _ ?_
    show Steps p.tables e below (T193.setTop (mkF m 37 #[.val (.ref r0), .val (.int (16 : Int32)), .val (.int (16 : Int32))] [])) _
    refine XS.aloadN X193.here hx rfl (hb hby d5_37) rfl rfl ?_
    refine XS.iloadN X193.here hx rfl (hb hby d5_38) rfl ?_
    show Steps p.tables e below (T193.setTop (mkF m 39 #[.val (.ref r0), .val (.int (16 : Int32)), .val (.int (16 : Int32))] [(.int (16 : Int32)), (.ref r0)])) _
    refine st210 _ ?_
    show Steps p.tables e below (T210.setTop (mkF m 41 #[.val (.ref r0), .val (.int (16 : Int32)), .val (.int (16 : Int32))] [(.ref b210), (.ref r0)])) _
    refine st227 _ ?_
    show Steps p.tables e below (T227.setTop (mkF m 44 #[.val (.ref r0), .val (.int (16 : Int32)), .val (.int (16 : Int32))] [])) _
    refine XS.aloadN X227.here hx rfl (hb hby d5_44) rfl rfl ?_
    refine XS.iloadN X227.here hx rfl (hb hby d5_45) rfl ?_
    show Steps p.tables e below (T227.setTop (mkF m 46 #[.val (.ref r0), .val (.int (16 : Int32)), .val (.int (16 : Int32))] [(.int (16 : Int32)), (.ref r0)])) _
    refine st245 _ ?_
    show Steps p.tables e below (T245.setTop (mkF m 48 #[.val (.ref r0), .val (.int (16 : Int32)), .val (.int (16 : Int32))] [(.ref b245), (.ref r0)])) _
    refine st263 _ ?_
    show Steps p.tables e below (T263.setTop (mkF m 51 #[.val (.ref r0), .val (.int (16 : Int32)), .val (.int (16 : Int32))] [])) _
    refine XS.aloadN X263.here hx rfl (hb hby d5_51) rfl rfl ?_
    refine XS.iloadN X263.here hx rfl (hb hby d5_52) rfl ?_
    show Steps p.tables e below (T263.setTop (mkF m 53 #[.val (.ref r0), .val (.int (16 : Int32)), .val (.int (16 : Int32))] [(.int (16 : Int32)), (.ref r0)])) _
    refine st282 _ ?_
    show Steps p.tables e below (T282.setTop (mkF m 56 #[.val (.ref r0), .val (.int (16 : Int32)), .val (.int (16 : Int32))] [(.ref b282_0), (.ref r0)])) _
    refine st300 _ ?_
    exact kt
  refine own_go hgo320 ?_
  exact own_retV X300 hx Bd.returns Bd.notSynchronized (hb hby d5_59) (by decide) (by decide) (by rw [e300]; exact ⟨b117, b146, b177, b210, b245, b282_0, (by rfl), N319, K318, sz_b117, sz_b146, sz_b177, sz_b210, sz_b245, sz_b282_0, ne_b117_b146, ne_b117_b177, ne_b117_b210, ne_b117_b245, ne_b117_b282_0, ne_b146_b177, ne_b146_b210, ne_b146_b245, ne_b146_b282_0, ne_b177_b210, ne_b177_b245, ne_b177_b282_0, ne_b210_b245, ne_b210_b282_0, ne_b245_b282_0, F301, F302, F303, F304, F305, F306, F307, F308, F309, F310, (by rw [← hv1]; exact F311), (by rw [← hv2]; exact F312), (by rw [← hv3]; exact F313), (by rw [← hv4]; exact F314), (by rw [← hv5]; exact F315), (by rw [← hv6]; exact F316)⟩)
theorem d14_0 : decode prog_15_method_10_code 0 = .ok (.aload_n 0, 1) := by decide +kernel
theorem d14_1 : decode prog_15_method_10_code 1 = .ok (.getfield 7, 3) := by decide +kernel
theorem d14_4 : decode prog_15_method_10_code 4 = .ok (.lreturn, 1) := by decide +kernel
theorem ef_h1 (m : MethodId) (r0 : Addr) : entryFrame m #[(.ref r0)] 1 = mkF m 0 #[.val (.ref r0)] [] := by (first | (simp [entryFrame, mkF, argsToLocals, Value.category]; done) | rfl)
def Qh1 (Z : State) (r0 : Addr) (w1 : Int64) (h0 : Heap) (n0 : Nat) (v : Option Value) (h : Heap) (L : List Loc) : Prop := v = some (.long w1) ∧ Fr n0 L ∧ h = h0
set_option maxRecDepth 65536 in
set_option maxHeartbeats 40000000 in
theorem rmh1 (l : Launch) (Z : State) (a0 : Array Value) (hw : ∀ d ∈ tables_1, d.before a0 Z = true) (ws : List Jvm.Cond) (r0 : Addr) (w1 : Int64) (h0 : Heap) (n0 : Nat) (Z0 : n0 ≤ h0.size) (F_h1_r0 : Fld Z h0 r0 "com/example/upper_falls/upperfalls/KeyHash" "h1" "J" (.long w1)) :
    MetFree l (⟨"com/example/upper_falls/upperfalls/KeyHash", "h1", "()J"⟩ : MethodName) (head1 (Jvm.Cond.code (⟨"com/example/upper_falls/upperfalls/KeyHash", "h1", "()J"⟩ : MethodName) prog_15_method_10_code 1 (some .long) :: ws) ({ frames := 0, cells := 0, slots := 0, locals := 0 } : Room)) (fun a U => a = #[(.ref r0)] ∧ Z.Warmed39 U.vm ∧ U.heap = h0) (fun _ _ _ _ _ => True) (fun _ U o U' => ∃ v L, o = .returned v ∧ Qh1 Z r0 w1 h0 n0 v U'.heap L ∧ FrameEnd U o U' L ({ frames := 0, cells := 0, slots := 0, locals := 0 } : Room).cells ({ frames := 0, cells := 0, slots := 0, locals := 0 } : Room).slots) := by
  refine MetFree.of_bodySF (plainFor_of_name pn3) hisR ?_
  intro p e s m args below meth c s₁ Bd hml0 hP hK
  obtain ⟨rfl, hZ, hh⟩ := hP
  have hx := Bd.exec
  have hby := Bd.bytes
  have hml : c.maxLocals = 1 := hml0
  have hown : s.vm.findClass "com/example/upper_falls/upperfalls/KeyHash" = some m.cls := findClass_of_methodNamed Bd.named
  have hnm := (name_of_methodNamed Bd.named Bd.method).1
  have X0 : Stand p l e ({ frames := 0, cells := 0, slots := 0, locals := 0 } : Room) s m #[(.ref r0)] below meth c s₁ [] 0 0 := Stand.of_body Bd
  have e0 : s₁.heap = h0 := by rw [← hh, Bd.state]; rfl
  have N0 := Fr.nil n0
  have K0 : Keep h0 h0 [] := Keep.refl h0 _
  show own_Go p e below s (Qh1 Z r0 w1 h0 n0) ({ frames := 0, cells := 0, slots := 0, locals := 0 } : Room).cells ({ frames := 0, cells := 0, slots := 0, locals := 0 } : Room).slots (s₁.setTop (entryFrame m #[(.ref r0)] 1))
  refine own_go (fun t k => castTop (ef_h1 m r0) k) ?_
  obtain ⟨T101, X101, e101, st101⟩ := getF X0 hx hZ hown (host := "") (Or.inl (own_wd hw 19 rfl)) Via.refl e0 F_h1_r0 (g := (mkF m 1 #[.val (.ref r0)] [(.ref r0)])) rfl rfl (hb hby d14_1)
  have hgo102 : ∀ t, Steps p.tables e below (T101.setTop (mkF m 4 #[.val (.ref r0)] [(.long w1)])) t → Steps p.tables e below (s₁.setTop (mkF m 0 #[.val (.ref r0)] [])) t := by
    intro t kt
    show Steps p.tables e below (s₁.setTop (mkF m 0 #[.val (.ref r0)] [])) _
    refine XS.aloadN X0.here hx rfl (hb hby d14_0) rfl rfl ?_
    show Steps p.tables e below (s₁.setTop (mkF m 1 #[.val (.ref r0)] [(.ref r0)])) _
    refine st101 _ ?_
    exact kt
  refine own_go hgo102 ?_
  exact own_retJ X101 hx Bd.returns Bd.notSynchronized (hb hby d14_4) (by decide) (by decide) (by rw [e101]; exact ⟨(by rfl), N0, rfl⟩)
theorem d16_0 : decode prog_15_method_11_code 0 = .ok (.aload_n 0, 1) := by decide +kernel
theorem d16_1 : decode prog_15_method_11_code 1 = .ok (.getfield 13, 3) := by decide +kernel
theorem d16_4 : decode prog_15_method_11_code 4 = .ok (.lreturn, 1) := by decide +kernel
theorem ef_h2 (m : MethodId) (r0 : Addr) : entryFrame m #[(.ref r0)] 1 = mkF m 0 #[.val (.ref r0)] [] := by (first | (simp [entryFrame, mkF, argsToLocals, Value.category]; done) | rfl)
def Qh2 (Z : State) (r0 : Addr) (w1 : Int64) (h0 : Heap) (n0 : Nat) (v : Option Value) (h : Heap) (L : List Loc) : Prop := v = some (.long w1) ∧ Fr n0 L ∧ h = h0
set_option maxRecDepth 65536 in
set_option maxHeartbeats 40000000 in
theorem rmh2 (l : Launch) (Z : State) (a0 : Array Value) (hw : ∀ d ∈ tables_1, d.before a0 Z = true) (ws : List Jvm.Cond) (r0 : Addr) (w1 : Int64) (h0 : Heap) (n0 : Nat) (Z0 : n0 ≤ h0.size) (F_h2_r0 : Fld Z h0 r0 "com/example/upper_falls/upperfalls/KeyHash" "h2" "J" (.long w1)) :
    MetFree l (⟨"com/example/upper_falls/upperfalls/KeyHash", "h2", "()J"⟩ : MethodName) (head1 (Jvm.Cond.code (⟨"com/example/upper_falls/upperfalls/KeyHash", "h2", "()J"⟩ : MethodName) prog_15_method_11_code 1 (some .long) :: ws) ({ frames := 0, cells := 0, slots := 0, locals := 0 } : Room)) (fun a U => a = #[(.ref r0)] ∧ Z.Warmed39 U.vm ∧ U.heap = h0) (fun _ _ _ _ _ => True) (fun _ U o U' => ∃ v L, o = .returned v ∧ Qh2 Z r0 w1 h0 n0 v U'.heap L ∧ FrameEnd U o U' L ({ frames := 0, cells := 0, slots := 0, locals := 0 } : Room).cells ({ frames := 0, cells := 0, slots := 0, locals := 0 } : Room).slots) := by
  refine MetFree.of_bodySF (plainFor_of_name pn3) hisR ?_
  intro p e s m args below meth c s₁ Bd hml0 hP hK
  obtain ⟨rfl, hZ, hh⟩ := hP
  have hx := Bd.exec
  have hby := Bd.bytes
  have hml : c.maxLocals = 1 := hml0
  have hown : s.vm.findClass "com/example/upper_falls/upperfalls/KeyHash" = some m.cls := findClass_of_methodNamed Bd.named
  have hnm := (name_of_methodNamed Bd.named Bd.method).1
  have X0 : Stand p l e ({ frames := 0, cells := 0, slots := 0, locals := 0 } : Room) s m #[(.ref r0)] below meth c s₁ [] 0 0 := Stand.of_body Bd
  have e0 : s₁.heap = h0 := by rw [← hh, Bd.state]; rfl
  have N0 := Fr.nil n0
  have K0 : Keep h0 h0 [] := Keep.refl h0 _
  show own_Go p e below s (Qh2 Z r0 w1 h0 n0) ({ frames := 0, cells := 0, slots := 0, locals := 0 } : Room).cells ({ frames := 0, cells := 0, slots := 0, locals := 0 } : Room).slots (s₁.setTop (entryFrame m #[(.ref r0)] 1))
  refine own_go (fun t k => castTop (ef_h2 m r0) k) ?_
  obtain ⟨T101, X101, e101, st101⟩ := getF X0 hx hZ hown (host := "") (Or.inl (own_wd hw 21 rfl)) Via.refl e0 F_h2_r0 (g := (mkF m 1 #[.val (.ref r0)] [(.ref r0)])) rfl rfl (hb hby d16_1)
  have hgo102 : ∀ t, Steps p.tables e below (T101.setTop (mkF m 4 #[.val (.ref r0)] [(.long w1)])) t → Steps p.tables e below (s₁.setTop (mkF m 0 #[.val (.ref r0)] [])) t := by
    intro t kt
    show Steps p.tables e below (s₁.setTop (mkF m 0 #[.val (.ref r0)] [])) _
    refine XS.aloadN X0.here hx rfl (hb hby d16_0) rfl rfl ?_
    show Steps p.tables e below (s₁.setTop (mkF m 1 #[.val (.ref r0)] [(.ref r0)])) _
    refine st101 _ ?_
    exact kt
  refine own_go hgo102 ?_
  exact own_retJ X101 hx Bd.returns Bd.notSynchronized (hb hby d16_4) (by decide) (by decide) (by rw [e101]; exact ⟨(by rfl), N0, rfl⟩)
theorem d15_0 : decode prog_13_method_10_code 0 = .ok (.lload_n 1, 1) := by decide +kernel
theorem d15_1 : decode prog_13_method_10_code 1 = .ok (.l2i, 1) := by decide +kernel
theorem d15_2 : decode prog_13_method_10_code 2 = .ok (.aload_n 0, 1) := by decide +kernel
theorem d15_3 : decode prog_13_method_10_code 3 = .ok (.getfield 40, 3) := by decide +kernel
theorem d15_6 : decode prog_13_method_10_code 6 = .ok (.arraylength, 1) := by decide +kernel
theorem d15_7 : decode prog_13_method_10_code 7 = .ok (.iconst 1, 1) := by decide +kernel
theorem d15_8 : decode prog_13_method_10_code 8 = .ok (.isub, 1) := by decide +kernel
theorem d15_9 : decode prog_13_method_10_code 9 = .ok (.iand, 1) := by decide +kernel
theorem d15_10 : decode prog_13_method_10_code 10 = .ok (.ireturn, 1) := by decide +kernel
theorem ef_ho (m : MethodId) (r0 : Addr) (q1 : Int64) : entryFrame m #[(.ref r0), (.long q1)] 3 = mkF m 0 #[.val (.ref r0), .val (.long q1), .second] [] := by (first | (simp [entryFrame, mkF, argsToLocals, Value.category]; done) | rfl)
def Qho (Z : State) (r0 : Addr) (q1 : Int64) (ys : Addr) (f : Nat → Int32) (h0 : Heap) (n0 : Nat) (v : Option Value) (h : Heap) (L : List Loc) : Prop := v = some (.int ((q1.toInt32) &&& (31 : Int32))) ∧ Fr n0 L ∧ h = h0
set_option maxRecDepth 65536 in
set_option maxHeartbeats 40000000 in
theorem rmho (l : Launch) (Z : State) (a0 : Array Value) (hw : ∀ d ∈ tables_1, d.before a0 Z = true) (ws : List Jvm.Cond) (r0 : Addr) (q1 : Int64) (ys : Addr) (f : Nat → Int32) (h0 : Heap) (n0 : Nat) (Z0 : n0 ≤ h0.size) (F_slots : Fld Z h0 r0 "com/example/upper_falls/upperfalls/HeldKeys" "slots" "[I" (.ref ys)) (A_ys : own_AI Z h0 ys .int 32 f) :
    MetFree l (⟨"com/example/upper_falls/upperfalls/HeldKeys", "home", "(J)I"⟩ : MethodName) (head1 (Jvm.Cond.code (⟨"com/example/upper_falls/upperfalls/HeldKeys", "home", "(J)I"⟩ : MethodName) prog_13_method_10_code 3 (some .int) :: ws) ({ frames := 0, cells := 0, slots := 0, locals := 0 } : Room)) (fun a U => a = #[(.ref r0), (.long q1)] ∧ Z.Warmed39 U.vm ∧ U.heap = h0) (fun _ _ _ _ _ => True) (fun _ U o U' => ∃ v L, o = .returned v ∧ Qho Z r0 q1 ys f h0 n0 v U'.heap L ∧ FrameEnd U o U' L ({ frames := 0, cells := 0, slots := 0, locals := 0 } : Room).cells ({ frames := 0, cells := 0, slots := 0, locals := 0 } : Room).slots) := by
  refine MetFree.of_bodySF (plainFor_of_name pn9) hisR ?_
  intro p e s m args below meth c s₁ Bd hml0 hP hK
  obtain ⟨rfl, hZ, hh⟩ := hP
  have hx := Bd.exec
  have hby := Bd.bytes
  have hml : c.maxLocals = 3 := hml0
  have hown : s.vm.findClass "com/example/upper_falls/upperfalls/HeldKeys" = some m.cls := findClass_of_methodNamed Bd.named
  have hnm := (name_of_methodNamed Bd.named Bd.method).1
  have X0 : Stand p l e ({ frames := 0, cells := 0, slots := 0, locals := 0 } : Room) s m #[(.ref r0), (.long q1)] below meth c s₁ [] 0 0 := Stand.of_body Bd
  have e0 : s₁.heap = h0 := by rw [← hh, Bd.state]; rfl
  have N0 := Fr.nil n0
  have K0 : Keep h0 h0 [] := Keep.refl h0 _
  show own_Go p e below s (Qho Z r0 q1 ys f h0 n0) ({ frames := 0, cells := 0, slots := 0, locals := 0 } : Room).cells ({ frames := 0, cells := 0, slots := 0, locals := 0 } : Room).slots (s₁.setTop (entryFrame m #[(.ref r0), (.long q1)] 3))
  refine own_go (fun t k => castTop (ef_ho m r0 q1) k) ?_
  obtain ⟨T101, X101, e101, st101⟩ := getF X0 hx hZ hown (host := "") (Or.inl (own_wd hw 69 rfl)) Via.refl e0 F_slots (g := (mkF m 3 #[.val (.ref r0), .val (.long q1), .second] [(.ref r0), (.int (q1.toInt32))])) rfl rfl (hb hby d15_3)
  obtain ⟨v1, hv1⟩ : ∃ z : Int32, z = ((q1.toInt32) &&& (31 : Int32)) := ⟨_, rfl⟩
  have hgo102 : ∀ t, Steps p.tables e below (T101.setTop (mkF m 10 #[.val (.ref r0), .val (.long q1), .second] [(.int v1)])) t → Steps p.tables e below (s₁.setTop (mkF m 0 #[.val (.ref r0), .val (.long q1), .second] [])) t := by
    intro t kt
    show Steps p.tables e below (s₁.setTop (mkF m 0 #[.val (.ref r0), .val (.long q1), .second] [])) _
    refine XS.lloadN X0.here hx rfl (hb hby d15_0) rfl ?_
    refine XS.l2i X0.here hx rfl (hb hby d15_1) rfl ?_
    show Steps p.tables e below (s₁.setTop (mkF m 2 #[.val (.ref r0), .val (.long q1), .second] [(.int (q1.toInt32))])) _
    refine XS.aloadN X0.here hx rfl (hb hby d15_2) rfl rfl ?_
    show Steps p.tables e below (s₁.setTop (mkF m 3 #[.val (.ref r0), .val (.long q1), .second] [(.ref r0), (.int (q1.toInt32))])) _
    refine st101 _ ?_
    show Steps p.tables e below (T101.setTop (mkF m 6 #[.val (.ref r0), .val (.long q1), .second] [(.ref ys), (.int (q1.toInt32))])) _
    refine own_lenI X101 hx hZ e101 A_ys (g := (mkF m 6 #[.val (.ref r0), .val (.long q1), .second] [(.ref ys), (.int (q1.toInt32))])) rfl rfl (hb hby d15_6) _ ?_
    show Steps p.tables e below (T101.setTop (mkF m 7 #[.val (.ref r0), .val (.long q1), .second] [(.int (32 : Int32)), (.int (q1.toInt32))])) _
    refine XS.iconst X101.here hx rfl (hb hby d15_7) ?_
    refine XS.isub X101.here hx rfl (hb hby d15_8) rfl ?_
    show Steps p.tables e below (T101.setTop (mkF m 9 #[.val (.ref r0), .val (.long q1), .second] [(.int (31 : Int32)), (.int (q1.toInt32))])) _
    refine XS.iand X101.here hx rfl (hb hby d15_9) rfl ?_
    rw [← hv1]
    exact kt
  refine own_go hgo102 ?_
  exact own_retI X101 hx Bd.returns Bd.notSynchronized (hb hby d15_10) (by decide) (by decide) (by rw [e101]; exact ⟨(by subst hv1; rfl), N0, rfl⟩)
theorem pd11 : parseMethodDescriptor "()J" = some ⟨[], some .long⟩ := by decide +kernel
theorem d13_20 : decode prog_13_method_3_code 20 = .ok (.aload_n 0, 1) := by decide +kernel
theorem d13_21 : decode prog_13_method_3_code 21 = .ok (.getfield 40, 3) := by decide +kernel
theorem d13_24 : decode prog_13_method_3_code 24 = .ok (.iload 4, 2) := by decide +kernel
theorem d13_26 : decode prog_13_method_3_code 26 = .ok (.iaload, 1) := by decide +kernel
theorem d13_27 : decode prog_13_method_3_code 27 = .ok (.iconst (-1), 1) := by decide +kernel
theorem d13_28 : decode prog_13_method_3_code 28 = .ok (.if_icmp .eq 59, 3) := by decide +kernel
theorem d13_31 : decode prog_13_method_3_code 31 = .ok (.aload_n 0, 1) := by decide +kernel
theorem d13_32 : decode prog_13_method_3_code 32 = .ok (.getfield 40, 3) := by decide +kernel
theorem d13_35 : decode prog_13_method_3_code 35 = .ok (.iload 4, 2) := by decide +kernel
theorem d13_37 : decode prog_13_method_3_code 37 = .ok (.iaload, 1) := by decide +kernel
theorem d13_38 : decode prog_13_method_3_code 38 = .ok (.istore 5, 2) := by decide +kernel
theorem d13_40 : decode prog_13_method_3_code 40 = .ok (.aload_n 0, 1) := by decide +kernel
theorem d13_41 : decode prog_13_method_3_code 41 = .ok (.getfield 19, 3) := by decide +kernel
theorem d13_44 : decode prog_13_method_3_code 44 = .ok (.iload 5, 2) := by decide +kernel
theorem d13_46 : decode prog_13_method_3_code 46 = .ok (.laload, 1) := by decide +kernel
theorem d13_47 : decode prog_13_method_3_code 47 = .ok (.aload_n 1, 1) := by decide +kernel
theorem d13_48 : decode prog_13_method_3_code 48 = .ok (.invokevirtual 58, 3) := by decide +kernel
theorem d13_51 : decode prog_13_method_3_code 51 = .ok (.lcmp, 1) := by decide +kernel
theorem d13_52 : decode prog_13_method_3_code 52 = .ok (.ifCond .ne 24, 3) := by decide +kernel
theorem d13_55 : decode prog_13_method_3_code 55 = .ok (.aload_n 0, 1) := by decide +kernel
theorem d13_56 : decode prog_13_method_3_code 56 = .ok (.getfield 23, 3) := by decide +kernel
theorem d13_59 : decode prog_13_method_3_code 59 = .ok (.iload 5, 2) := by decide +kernel
theorem d13_61 : decode prog_13_method_3_code 61 = .ok (.laload, 1) := by decide +kernel
theorem d13_62 : decode prog_13_method_3_code 62 = .ok (.aload_n 1, 1) := by decide +kernel
theorem d13_63 : decode prog_13_method_3_code 63 = .ok (.invokevirtual 68, 3) := by decide +kernel
theorem d13_66 : decode prog_13_method_3_code 66 = .ok (.lcmp, 1) := by decide +kernel
theorem d13_67 : decode prog_13_method_3_code 67 = .ok (.ifCond .ne 9, 3) := by decide +kernel
theorem d13_70 : decode prog_13_method_3_code 70 = .ok (.iload 5, 2) := by decide +kernel
theorem d13_72 : decode prog_13_method_3_code 72 = .ok (.istore_n 3, 1) := by decide +kernel
theorem d13_73 : decode prog_13_method_3_code 73 = .ok (.goto 14, 3) := by decide +kernel
theorem d13_76 : decode prog_13_method_3_code 76 = .ok (.iload 4, 2) := by decide +kernel
theorem d13_78 : decode prog_13_method_3_code 78 = .ok (.iconst 1, 1) := by decide +kernel
theorem d13_79 : decode prog_13_method_3_code 79 = .ok (.iadd, 1) := by decide +kernel
theorem d13_80 : decode prog_13_method_3_code 80 = .ok (.iload_n 2, 1) := by decide +kernel
theorem d13_81 : decode prog_13_method_3_code 81 = .ok (.iand, 1) := by decide +kernel
theorem d13_82 : decode prog_13_method_3_code 82 = .ok (.istore 4, 2) := by decide +kernel
theorem d13_84 : decode prog_13_method_3_code 84 = .ok (.goto (-64), 3) := by decide +kernel
set_option maxRecDepth 65536 in
set_option maxHeartbeats 40000000 in
theorem own_findL {p : Program} {l : Launch} {e : Env} {s : State} {m : MethodId} {args : Array Value} {below : List Frame} {meth : Method} {c : Code} {Z : State} {a0 : Array Value} {h0 : Heap} {n0 : Nat} (r0 : Addr) (r1 : Addr) (ys : Addr) (y1 : Addr) (y2 : Addr) (f : Nat → Int32) (g1 : Nat → Int64) (g2 : Nat → Int64) (k1 : Int64) (k2 : Int64) (t : Int32) (n : Nat) (y : Int32) (hx : p.tables.exec = Jvm.exec) (hZ : Z.Warmed39 s.vm) (hw : ∀ d ∈ tables_1, d.before a0 Z = true) (hby : c.code = prog_13_method_3_code) (hml : c.maxLocals = 6) (hown : s.vm.findClass "com/example/upper_falls/upperfalls/HeldKeys" = some m.cls) (hV : own_V n f) (hM : own_M n g1 g2 t k1 k2) (hn3 : n ≤ 3) :
    ∀ (k : Nat) (T : State) (locs : List Loc) (h : Heap) (i : Int32) (sl : Slot), Stand p l e ({ frames := 1, cells := 0, slots := 0, locals := 40 } : Room) s m args below meth c T locs 0 0 → Fr n0 locs → T.heap = h → n0 ≤ h.size → Keep h0 h [] → Exa Z h r0 "com/example/upper_falls/upperfalls/HeldKeys" → Fld Z h r0 "com/example/upper_falls/upperfalls/HeldKeys" "slots" "[I" (.ref ys) → Fld Z h r0 "com/example/upper_falls/upperfalls/HeldKeys" "hash1" "[J" (.ref y1) → Fld Z h r0 "com/example/upper_falls/upperfalls/HeldKeys" "hash2" "[J" (.ref y2) → own_AI Z h ys .int 32 f → own_AJ Z h y1 .long 16 g1 → own_AJ Z h y2 .long 16 g2 → Exa Z h r1 "com/example/upper_falls/upperfalls/KeyHash" → Fld Z h r1 "com/example/upper_falls/upperfalls/KeyHash" "h1" "J" (.long k1) → Fld Z h r1 "com/example/upper_falls/upperfalls/KeyHash" "h2" "J" (.long k2) → (sl = .unset ∨ ∃ w, sl = .val w ∧ w.category = 1) → (¬ i < 0 ∧ i.toNatClampNeg < 32) → own_fnd f t k i = some y → own_Run p e below (T.setTop (mkF m 20 #[.val (.ref r0), .val (.ref r1), .val (.int (31 : Int32)), .val (.int (-1 : Int32)), .val (.int i), sl] [])) (fun B => ∃ (T' : State) (locs' : List Loc) (i' : Int32) (sl' : Slot), B = T'.setTop (mkF m 87 #[.val (.ref r0), .val (.ref r1), .val (.int (31 : Int32)), .val (.int y), .val (.int i'), sl'] []) ∧ Stand p l e ({ frames := 1, cells := 0, slots := 0, locals := 40 } : Room) s m args below meth c T' locs' 0 0 ∧ Fr n0 locs' ∧ T'.heap = h) := by
  intro k
  induction k with
  | zero =>
    intro T locs h i sl X0 N0 e0 Z0 K0 E_r0 F_slots F_hash1 F_hash2 A_ys A_y1 A_y2 E_r1 F_h1 F_h2 hsl hi hk
    cases hk
  | succ k ih =>
    intro T locs h i sl X0 N0 e0 Z0 K0 E_r0 F_slots F_hash1 F_hash2 A_ys A_y1 A_y2 E_r1 F_h1 F_h2 hsl hi hk
    obtain ⟨T101, X101, e101, st101⟩ := getF X0 hx hZ hown (host := "") (Or.inl (own_wd hw 69 rfl)) Via.refl e0 F_slots (g := (mkF m 21 #[.val (.ref r0), .val (.ref r1), .val (.int (31 : Int32)), .val (.int (-1 : Int32)), .val (.int i), sl] [(.ref r0)])) rfl rfl (hb hby d13_21)
    have hin26_102 : ¬ i < 0 ∧ i.toNatClampNeg < 32 := hi
    have hgo103 : ∀ t, Steps p.tables e below (T101.setTop (mkF m 28 #[.val (.ref r0), .val (.ref r1), .val (.int (31 : Int32)), .val (.int (-1 : Int32)), .val (.int i), sl] [(.int (-1 : Int32)), (.int (f i.toNatClampNeg))])) t → Steps p.tables e below (T.setTop (mkF m 20 #[.val (.ref r0), .val (.ref r1), .val (.int (31 : Int32)), .val (.int (-1 : Int32)), .val (.int i), sl] [])) t := by
      intro t kt
      show Steps p.tables e below (T.setTop (mkF m 20 #[.val (.ref r0), .val (.ref r1), .val (.int (31 : Int32)), .val (.int (-1 : Int32)), .val (.int i), sl] [])) _
      refine XS.aloadN X0.here hx rfl (hb hby d13_20) rfl rfl ?_
      show Steps p.tables e below (T.setTop (mkF m 21 #[.val (.ref r0), .val (.ref r1), .val (.int (31 : Int32)), .val (.int (-1 : Int32)), .val (.int i), sl] [(.ref r0)])) _
      refine st101 _ ?_
      show Steps p.tables e below (T101.setTop (mkF m 24 #[.val (.ref r0), .val (.ref r1), .val (.int (31 : Int32)), .val (.int (-1 : Int32)), .val (.int i), sl] [(.ref ys)])) _
      refine XS.iload X101.here hx rfl (hb hby d13_24) rfl ?_
      show Steps p.tables e below (T101.setTop (mkF m 26 #[.val (.ref r0), .val (.ref r1), .val (.int (31 : Int32)), .val (.int (-1 : Int32)), .val (.int i), sl] [(.int i), (.ref ys)])) _
      refine own_ldI X101 hx hZ e101 A_ys (j := i) hin26_102 (g := (mkF m 26 #[.val (.ref r0), .val (.ref r1), .val (.int (31 : Int32)), .val (.int (-1 : Int32)), .val (.int i), sl] [(.int i), (.ref ys)])) rfl rfl (hb hby d13_26) _ ?_
      show Steps p.tables e below (T101.setTop (mkF m 27 #[.val (.ref r0), .val (.ref r1), .val (.int (31 : Int32)), .val (.int (-1 : Int32)), .val (.int i), sl] [(.int (f i.toNatClampNeg))])) _
      refine XS.iconst X101.here hx rfl (hb hby d13_27) ?_
      exact kt
    refine own_run hgo103 ?_
    by_cases hc28_1 : (f i.toNatClampNeg) = (-1 : Int32)
    · have hgo104 : ∀ t, Steps p.tables e below (T101.setTop (mkF m 87 #[.val (.ref r0), .val (.ref r1), .val (.int (31 : Int32)), .val (.int (-1 : Int32)), .val (.int i), sl] [])) t → Steps p.tables e below (T101.setTop (mkF m 28 #[.val (.ref r0), .val (.ref r1), .val (.int (31 : Int32)), .val (.int (-1 : Int32)), .val (.int i), sl] [(.int (-1 : Int32)), (.int (f i.toNatClampNeg))])) t := by
        intro t kt
        show Steps p.tables e below (T101.setTop (mkF m 28 #[.val (.ref r0), .val (.ref r1), .val (.int (31 : Int32)), .val (.int (-1 : Int32)), .val (.int i), sl] [(.int (-1 : Int32)), (.int (f i.toNatClampNeg))])) _
        refine XS.icmpYes X101.here hx rfl (pc0 := 28) (pc' := 87) rfl (hb hby d13_28) rfl (teq hc28_1).1 (by decide) (by decide) ?_
        exact kt
      refine own_run hgo104 ?_
      rw [own_f1 hk hc28_1]
      exact ⟨_, ⟨_, _, _, _, rfl, X101, N0, e101⟩, fun t kt => kt⟩
    · obtain ⟨T105, X105, e105, st105⟩ := getF X101 hx hZ hown (host := "") (Or.inl (own_wd hw 69 rfl)) Via.refl e101 F_slots (g := (mkF m 32 #[.val (.ref r0), .val (.ref r1), .val (.int (31 : Int32)), .val (.int (-1 : Int32)), .val (.int i), sl] [(.ref r0)])) rfl rfl (hb hby d13_32)
      have hin37_106 : ¬ i < 0 ∧ i.toNatClampNeg < 32 := hi
      obtain ⟨v2, hv2⟩ : ∃ z : Int32, z = (f i.toNatClampNeg) := ⟨_, rfl⟩
      obtain ⟨T107, X107, e107, st107⟩ := getF X105 hx hZ hown (host := "") (Or.inl (own_wd hw 39 rfl)) Via.refl e105 F_hash1 (g := (mkF m 41 #[.val (.ref r0), .val (.ref r1), .val (.int (31 : Int32)), .val (.int (-1 : Int32)), .val (.int i), .val (.int v2)] [(.ref r0)])) rfl rfl (hb hby d13_41)
      have hin46_108 : ¬ v2 < 0 ∧ v2.toNatClampNeg < 16 := (by rw [hv2]; exact own_Vin hV hn3 hi.2 hc28_1)
      obtain ⟨cq109, kq109, q109a, q109b, q109c⟩ := isOf hZ e107 E_r1
      obtain ⟨_, _, ⟨T109, L109, k109, n109⟩, -, X109, ⟨Lc109, hQ109, l109, y109, z109⟩, st109⟩ := X107.virtualBack hx (y := (⟨"com/example/upper_falls/upperfalls/KeyHash", "h1", "()J"⟩ : MethodName)) (z := (⟨"com/example/upper_falls/upperfalls/KeyHash", "h1", "()J"⟩ : MethodName)) hown (mvT hZ (own_wd hw 81 rfl)) (mvT hZ (own_wd hw 82 rfl)) (notFace_of_selects (args := #[]) (mvT hZ (own_wd hw 84 rfl))) (mvT hZ (own_wd hw 84 rfl)) (mvT hZ (own_wd hw 83 rfl)) (by decide) (backOf (W := 2) (rmh1 l Z a0 hw [] r1 k1 h n0 Z0 F_h1) hZ (own_wd hw 85 rfl) (own_wd hw 2 rfl) (by decide) (by decide)) q109a q109c (g := (mkF m 48 #[.val (.ref r0), .val (.ref r1), .val (.int (31 : Int32)), .val (.int (-1 : Int32)), .val (.int i), .val (.int v2)] [(.ref r1), (.long (g1 v2.toNatClampNeg))])) rfl (by rw [hml]; rfl) (Steps.refl _) (argsL := []) (rest := [(.long (g1 v2.toNatClampNeg))]) (lenOf pd11 rfl) rfl (by show 2 * 0 + _ ≤ _; exact Nat.le_of_eq rfl) (hb hby d13_48) (fun _ _ => ⟨rfl, e107, (by decide : 0 + 0 ≤ _), (by decide : 0 + 0 ≤ _)⟩)
      dsimp only [Pt.U, Pt.locs, Pt.cells, Pt.slots] at X109 l109 y109 z109 st109 hQ109
      subst l109 y109 z109
      obtain ⟨rfl, N109q, e109⟩ := hQ109
      have N109 := Fr.app N0 N109q
      have hgo110 : ∀ t, Steps p.tables e below (T109.setTop (mkF m 52 #[.val (.ref r0), .val (.ref r1), .val (.int (31 : Int32)), .val (.int (-1 : Int32)), .val (.int i), .val (.int v2)] [(.int (lcmpW (g1 v2.toNatClampNeg) k1))])) t → Steps p.tables e below (T101.setTop (mkF m 28 #[.val (.ref r0), .val (.ref r1), .val (.int (31 : Int32)), .val (.int (-1 : Int32)), .val (.int i), sl] [(.int (-1 : Int32)), (.int (f i.toNatClampNeg))])) t := by
        intro t kt
        show Steps p.tables e below (T101.setTop (mkF m 28 #[.val (.ref r0), .val (.ref r1), .val (.int (31 : Int32)), .val (.int (-1 : Int32)), .val (.int i), sl] [(.int (-1 : Int32)), (.int (f i.toNatClampNeg))])) _
        refine XS.icmpNo X101.here hx rfl (hb hby d13_28) rfl (feq hc28_1).1 ?_
        show Steps p.tables e below (T101.setTop (mkF m 31 #[.val (.ref r0), .val (.ref r1), .val (.int (31 : Int32)), .val (.int (-1 : Int32)), .val (.int i), sl] [])) _
        refine XS.aloadN X101.here hx rfl (hb hby d13_31) rfl rfl ?_
        show Steps p.tables e below (T101.setTop (mkF m 32 #[.val (.ref r0), .val (.ref r1), .val (.int (31 : Int32)), .val (.int (-1 : Int32)), .val (.int i), sl] [(.ref r0)])) _
        refine st105 _ ?_
        show Steps p.tables e below (T105.setTop (mkF m 35 #[.val (.ref r0), .val (.ref r1), .val (.int (31 : Int32)), .val (.int (-1 : Int32)), .val (.int i), sl] [(.ref ys)])) _
        refine XS.iload X105.here hx rfl (hb hby d13_35) rfl ?_
        show Steps p.tables e below (T105.setTop (mkF m 37 #[.val (.ref r0), .val (.ref r1), .val (.int (31 : Int32)), .val (.int (-1 : Int32)), .val (.int i), sl] [(.int i), (.ref ys)])) _
        refine own_ldI X105 hx hZ e105 A_ys (j := i) hin37_106 (g := (mkF m 37 #[.val (.ref r0), .val (.ref r1), .val (.int (31 : Int32)), .val (.int (-1 : Int32)), .val (.int i), sl] [(.int i), (.ref ys)])) rfl rfl (hb hby d13_37) _ ?_
        show Steps p.tables e below (T105.setTop (mkF m 38 #[.val (.ref r0), .val (.ref r1), .val (.int (31 : Int32)), .val (.int (-1 : Int32)), .val (.int i), sl] [(.int (f i.toNatClampNeg))])) _
        rw [← hv2]
        show Steps p.tables e below (T105.setTop (mkF m 38 #[.val (.ref r0), .val (.ref r1), .val (.int (31 : Int32)), .val (.int (-1 : Int32)), .val (.int i), sl] [(.int v2)])) _
        refine XS.istoreS X105.here hx rfl (hb hby d13_38) rfl (o := sl) rfl hsl ?_
        show Steps p.tables e below (T105.setTop (mkF m 40 #[.val (.ref r0), .val (.ref r1), .val (.int (31 : Int32)), .val (.int (-1 : Int32)), .val (.int i), .val (.int v2)] [])) _
        refine XS.aloadN X105.here hx rfl (hb hby d13_40) rfl rfl ?_
        show Steps p.tables e below (T105.setTop (mkF m 41 #[.val (.ref r0), .val (.ref r1), .val (.int (31 : Int32)), .val (.int (-1 : Int32)), .val (.int i), .val (.int v2)] [(.ref r0)])) _
        refine st107 _ ?_
        show Steps p.tables e below (T107.setTop (mkF m 44 #[.val (.ref r0), .val (.ref r1), .val (.int (31 : Int32)), .val (.int (-1 : Int32)), .val (.int i), .val (.int v2)] [(.ref y1)])) _
        refine XS.iload X107.here hx rfl (hb hby d13_44) rfl ?_
        show Steps p.tables e below (T107.setTop (mkF m 46 #[.val (.ref r0), .val (.ref r1), .val (.int (31 : Int32)), .val (.int (-1 : Int32)), .val (.int i), .val (.int v2)] [(.int v2), (.ref y1)])) _
        refine own_ldJ X107 hx hZ e107 A_y1 (j := v2) hin46_108 (g := (mkF m 46 #[.val (.ref r0), .val (.ref r1), .val (.int (31 : Int32)), .val (.int (-1 : Int32)), .val (.int i), .val (.int v2)] [(.int v2), (.ref y1)])) rfl rfl (hb hby d13_46) _ ?_
        show Steps p.tables e below (T107.setTop (mkF m 47 #[.val (.ref r0), .val (.ref r1), .val (.int (31 : Int32)), .val (.int (-1 : Int32)), .val (.int i), .val (.int v2)] [(.long (g1 v2.toNatClampNeg))])) _
        refine XS.aloadN X107.here hx rfl (hb hby d13_47) rfl rfl ?_
        show Steps p.tables e below (T107.setTop (mkF m 48 #[.val (.ref r0), .val (.ref r1), .val (.int (31 : Int32)), .val (.int (-1 : Int32)), .val (.int i), .val (.int v2)] [(.ref r1), (.long (g1 v2.toNatClampNeg))])) _
        refine st109.trans ?_
        show Steps p.tables e below (T109.setTop (mkF m 51 #[.val (.ref r0), .val (.ref r1), .val (.int (31 : Int32)), .val (.int (-1 : Int32)), .val (.int i), .val (.int v2)] [(.long k1), (.long (g1 v2.toNatClampNeg))])) _
        refine XS.lcmp X109.here hx rfl (hb hby d13_51) rfl ?_
        exact kt
      refine own_run hgo110 ?_
      by_cases hc52_3 : (g1 v2.toNatClampNeg) = k1
      · obtain ⟨T111, X111, e111, st111⟩ := getF X109 hx hZ hown (host := "") (Or.inl (own_wd hw 41 rfl)) Via.refl e109 F_hash2 (g := (mkF m 56 #[.val (.ref r0), .val (.ref r1), .val (.int (31 : Int32)), .val (.int (-1 : Int32)), .val (.int i), .val (.int v2)] [(.ref r0)])) rfl rfl (hb hby d13_56)
        have hin61_112 : ¬ v2 < 0 ∧ v2.toNatClampNeg < 16 := (by rw [hv2]; exact own_Vin hV hn3 hi.2 hc28_1)
        obtain ⟨cq113, kq113, q113a, q113b, q113c⟩ := isOf hZ e111 E_r1
        obtain ⟨_, _, ⟨T113, L113, k113, n113⟩, -, X113, ⟨Lc113, hQ113, l113, y113, z113⟩, st113⟩ := X111.virtualBack hx (y := (⟨"com/example/upper_falls/upperfalls/KeyHash", "h2", "()J"⟩ : MethodName)) (z := (⟨"com/example/upper_falls/upperfalls/KeyHash", "h2", "()J"⟩ : MethodName)) hown (mvT hZ (own_wd hw 94 rfl)) (mvT hZ (own_wd hw 95 rfl)) (notFace_of_selects (args := #[]) (mvT hZ (own_wd hw 97 rfl))) (mvT hZ (own_wd hw 97 rfl)) (mvT hZ (own_wd hw 96 rfl)) (by decide) (backOf (W := 2) (rmh2 l Z a0 hw [] r1 k2 h n0 Z0 F_h2) hZ (own_wd hw 98 rfl) (own_wd hw 2 rfl) (by decide) (by decide)) q113a q113c (g := (mkF m 63 #[.val (.ref r0), .val (.ref r1), .val (.int (31 : Int32)), .val (.int (-1 : Int32)), .val (.int i), .val (.int v2)] [(.ref r1), (.long (g2 v2.toNatClampNeg))])) rfl (by rw [hml]; rfl) (Steps.refl _) (argsL := []) (rest := [(.long (g2 v2.toNatClampNeg))]) (lenOf pd11 rfl) rfl (by show 2 * 0 + _ ≤ _; exact Nat.le_of_eq rfl) (hb hby d13_63) (fun _ _ => ⟨rfl, e111, (by decide : 0 + 0 ≤ _), (by decide : 0 + 0 ≤ _)⟩)
        dsimp only [Pt.U, Pt.locs, Pt.cells, Pt.slots] at X113 l113 y113 z113 st113 hQ113
        subst l113 y113 z113
        obtain ⟨rfl, N113q, e113⟩ := hQ113
        have N113 := Fr.app N109 N113q
        have hgo114 : ∀ t, Steps p.tables e below (T113.setTop (mkF m 67 #[.val (.ref r0), .val (.ref r1), .val (.int (31 : Int32)), .val (.int (-1 : Int32)), .val (.int i), .val (.int v2)] [(.int (lcmpW (g2 v2.toNatClampNeg) k2))])) t → Steps p.tables e below (T109.setTop (mkF m 52 #[.val (.ref r0), .val (.ref r1), .val (.int (31 : Int32)), .val (.int (-1 : Int32)), .val (.int i), .val (.int v2)] [(.int (lcmpW (g1 v2.toNatClampNeg) k1))])) t := by
          intro t kt
          show Steps p.tables e below (T109.setTop (mkF m 52 #[.val (.ref r0), .val (.ref r1), .val (.int (31 : Int32)), .val (.int (-1 : Int32)), .val (.int i), .val (.int v2)] [(.int (lcmpW (g1 v2.toNatClampNeg) k1))])) _
          refine XS.ifNo X109.here hx rfl (hb hby d13_52) rfl ((if0 _ _).trans (teq (own_lc_eq hc52_3)).2) ?_
          show Steps p.tables e below (T109.setTop (mkF m 55 #[.val (.ref r0), .val (.ref r1), .val (.int (31 : Int32)), .val (.int (-1 : Int32)), .val (.int i), .val (.int v2)] [])) _
          refine XS.aloadN X109.here hx rfl (hb hby d13_55) rfl rfl ?_
          show Steps p.tables e below (T109.setTop (mkF m 56 #[.val (.ref r0), .val (.ref r1), .val (.int (31 : Int32)), .val (.int (-1 : Int32)), .val (.int i), .val (.int v2)] [(.ref r0)])) _
          refine st111 _ ?_
          show Steps p.tables e below (T111.setTop (mkF m 59 #[.val (.ref r0), .val (.ref r1), .val (.int (31 : Int32)), .val (.int (-1 : Int32)), .val (.int i), .val (.int v2)] [(.ref y2)])) _
          refine XS.iload X111.here hx rfl (hb hby d13_59) rfl ?_
          show Steps p.tables e below (T111.setTop (mkF m 61 #[.val (.ref r0), .val (.ref r1), .val (.int (31 : Int32)), .val (.int (-1 : Int32)), .val (.int i), .val (.int v2)] [(.int v2), (.ref y2)])) _
          refine own_ldJ X111 hx hZ e111 A_y2 (j := v2) hin61_112 (g := (mkF m 61 #[.val (.ref r0), .val (.ref r1), .val (.int (31 : Int32)), .val (.int (-1 : Int32)), .val (.int i), .val (.int v2)] [(.int v2), (.ref y2)])) rfl rfl (hb hby d13_61) _ ?_
          show Steps p.tables e below (T111.setTop (mkF m 62 #[.val (.ref r0), .val (.ref r1), .val (.int (31 : Int32)), .val (.int (-1 : Int32)), .val (.int i), .val (.int v2)] [(.long (g2 v2.toNatClampNeg))])) _
          refine XS.aloadN X111.here hx rfl (hb hby d13_62) rfl rfl ?_
          show Steps p.tables e below (T111.setTop (mkF m 63 #[.val (.ref r0), .val (.ref r1), .val (.int (31 : Int32)), .val (.int (-1 : Int32)), .val (.int i), .val (.int v2)] [(.ref r1), (.long (g2 v2.toNatClampNeg))])) _
          refine st113.trans ?_
          show Steps p.tables e below (T113.setTop (mkF m 66 #[.val (.ref r0), .val (.ref r1), .val (.int (31 : Int32)), .val (.int (-1 : Int32)), .val (.int i), .val (.int v2)] [(.long k2), (.long (g2 v2.toNatClampNeg))])) _
          refine XS.lcmp X113.here hx rfl (hb hby d13_66) rfl ?_
          exact kt
        refine own_run hgo114 ?_
        by_cases hc67_4 : (g2 v2.toNatClampNeg) = k2
        · have hgo115 : ∀ t, Steps p.tables e below (T113.setTop (mkF m 87 #[.val (.ref r0), .val (.ref r1), .val (.int (31 : Int32)), .val (.int v2), .val (.int i), .val (.int v2)] [])) t → Steps p.tables e below (T113.setTop (mkF m 67 #[.val (.ref r0), .val (.ref r1), .val (.int (31 : Int32)), .val (.int (-1 : Int32)), .val (.int i), .val (.int v2)] [(.int (lcmpW (g2 v2.toNatClampNeg) k2))])) t := by
            intro t kt
            show Steps p.tables e below (T113.setTop (mkF m 67 #[.val (.ref r0), .val (.ref r1), .val (.int (31 : Int32)), .val (.int (-1 : Int32)), .val (.int i), .val (.int v2)] [(.int (lcmpW (g2 v2.toNatClampNeg) k2))])) _
            refine XS.ifNo X113.here hx rfl (hb hby d13_67) rfl ((if0 _ _).trans (teq (own_lc_eq hc67_4)).2) ?_
            show Steps p.tables e below (T113.setTop (mkF m 70 #[.val (.ref r0), .val (.ref r1), .val (.int (31 : Int32)), .val (.int (-1 : Int32)), .val (.int i), .val (.int v2)] [])) _
            refine XS.iload X113.here hx rfl (hb hby d13_70) rfl ?_
            refine XS.istoreN X113.here hx rfl (hb hby d13_72) rfl (l' := #[.val (.ref r0), .val (.ref r1), .val (.int (31 : Int32)), .val (.int v2), .val (.int i), .val (.int v2)]) rfl ?_
            show Steps p.tables e below (T113.setTop (mkF m 73 #[.val (.ref r0), .val (.ref r1), .val (.int (31 : Int32)), .val (.int v2), .val (.int i), .val (.int v2)] [])) _
            refine XS.goto X113.here hx rfl (pc0 := 73) (pc' := 87) rfl (hb hby d13_73) (by decide) (by decide) ?_
            exact kt
          refine own_run hgo115 ?_
          rw [own_f2 hk hv2 hc28_1 ((own_Mat hV hM hn3 hi.2 hv2 hc28_1).mpr ⟨hc52_3, hc67_4⟩)]
          exact ⟨_, ⟨_, _, _, _, rfl, X113, N113, e113⟩, fun t kt => kt⟩
        · obtain ⟨v5, hv5⟩ : ∃ z : Int32, z = ((i + (1 : Int32)) &&& (31 : Int32)) := ⟨_, rfl⟩
          have hgo116 : ∀ t, Steps p.tables e below (T113.setTop (mkF m 20 #[.val (.ref r0), .val (.ref r1), .val (.int (31 : Int32)), .val (.int (-1 : Int32)), .val (.int v5), .val (.int v2)] [])) t → Steps p.tables e below (T113.setTop (mkF m 67 #[.val (.ref r0), .val (.ref r1), .val (.int (31 : Int32)), .val (.int (-1 : Int32)), .val (.int i), .val (.int v2)] [(.int (lcmpW (g2 v2.toNatClampNeg) k2))])) t := by
            intro t kt
            show Steps p.tables e below (T113.setTop (mkF m 67 #[.val (.ref r0), .val (.ref r1), .val (.int (31 : Int32)), .val (.int (-1 : Int32)), .val (.int i), .val (.int v2)] [(.int (lcmpW (g2 v2.toNatClampNeg) k2))])) _
            refine XS.ifYes X113.here hx rfl (pc0 := 67) (pc' := 76) rfl (hb hby d13_67) rfl ((if0 _ _).trans (feq (own_lc_neq hc67_4)).2) (by decide) (by decide) ?_
            show Steps p.tables e below (T113.setTop (mkF m 76 #[.val (.ref r0), .val (.ref r1), .val (.int (31 : Int32)), .val (.int (-1 : Int32)), .val (.int i), .val (.int v2)] [])) _
            refine XS.iload X113.here hx rfl (hb hby d13_76) rfl ?_
            refine XS.iconst X113.here hx rfl (hb hby d13_78) ?_
            refine XS.iadd X113.here hx rfl (hb hby d13_79) rfl ?_
            show Steps p.tables e below (T113.setTop (mkF m 80 #[.val (.ref r0), .val (.ref r1), .val (.int (31 : Int32)), .val (.int (-1 : Int32)), .val (.int i), .val (.int v2)] [(.int (i + (1 : Int32)))])) _
            refine XS.iloadN X113.here hx rfl (hb hby d13_80) rfl ?_
            refine XS.iand X113.here hx rfl (hb hby d13_81) rfl ?_
            show Steps p.tables e below (T113.setTop (mkF m 82 #[.val (.ref r0), .val (.ref r1), .val (.int (31 : Int32)), .val (.int (-1 : Int32)), .val (.int i), .val (.int v2)] [(.int ((i + (1 : Int32)) &&& (31 : Int32)))])) _
            rw [← hv5]
            show Steps p.tables e below (T113.setTop (mkF m 82 #[.val (.ref r0), .val (.ref r1), .val (.int (31 : Int32)), .val (.int (-1 : Int32)), .val (.int i), .val (.int v2)] [(.int v5)])) _
            refine XS.istore X113.here hx rfl (hb hby d13_82) rfl (l' := #[.val (.ref r0), .val (.ref r1), .val (.int (31 : Int32)), .val (.int (-1 : Int32)), .val (.int v5), .val (.int v2)]) rfl ?_
            show Steps p.tables e below (T113.setTop (mkF m 84 #[.val (.ref r0), .val (.ref r1), .val (.int (31 : Int32)), .val (.int (-1 : Int32)), .val (.int v5), .val (.int v2)] [])) _
            refine XS.goto X113.here hx rfl (pc0 := 84) (pc' := 20) rfl (hb hby d13_84) (by decide) (by decide) ?_
            exact kt
          refine own_run hgo116 ?_
          have ym := own_Mat hV hM hn3 hi.2 hv2 hc28_1
          have yn : ¬ v2 = t := fun q => hc67_4 ((ym.mp q).2)
          exact ih _ _ _ v5 (.val (.int v2)) X113 N113 e113 Z0 K0 E_r0 F_slots F_hash1 F_hash2 A_ys A_y1 A_y2 E_r1 F_h1 F_h2 (Or.inr ⟨_, rfl, rfl⟩) (by rw [hv5]; exact own_and31 _) (by rw [hv5]; exact own_f3 hk hv2 hc28_1 yn)
      · obtain ⟨v6, hv6⟩ : ∃ z : Int32, z = ((i + (1 : Int32)) &&& (31 : Int32)) := ⟨_, rfl⟩
        have hgo117 : ∀ t, Steps p.tables e below (T109.setTop (mkF m 20 #[.val (.ref r0), .val (.ref r1), .val (.int (31 : Int32)), .val (.int (-1 : Int32)), .val (.int v6), .val (.int v2)] [])) t → Steps p.tables e below (T109.setTop (mkF m 52 #[.val (.ref r0), .val (.ref r1), .val (.int (31 : Int32)), .val (.int (-1 : Int32)), .val (.int i), .val (.int v2)] [(.int (lcmpW (g1 v2.toNatClampNeg) k1))])) t := by
          intro t kt
          show Steps p.tables e below (T109.setTop (mkF m 52 #[.val (.ref r0), .val (.ref r1), .val (.int (31 : Int32)), .val (.int (-1 : Int32)), .val (.int i), .val (.int v2)] [(.int (lcmpW (g1 v2.toNatClampNeg) k1))])) _
          refine XS.ifYes X109.here hx rfl (pc0 := 52) (pc' := 76) rfl (hb hby d13_52) rfl ((if0 _ _).trans (feq (own_lc_neq hc52_3)).2) (by decide) (by decide) ?_
          show Steps p.tables e below (T109.setTop (mkF m 76 #[.val (.ref r0), .val (.ref r1), .val (.int (31 : Int32)), .val (.int (-1 : Int32)), .val (.int i), .val (.int v2)] [])) _
          refine XS.iload X109.here hx rfl (hb hby d13_76) rfl ?_
          refine XS.iconst X109.here hx rfl (hb hby d13_78) ?_
          refine XS.iadd X109.here hx rfl (hb hby d13_79) rfl ?_
          show Steps p.tables e below (T109.setTop (mkF m 80 #[.val (.ref r0), .val (.ref r1), .val (.int (31 : Int32)), .val (.int (-1 : Int32)), .val (.int i), .val (.int v2)] [(.int (i + (1 : Int32)))])) _
          refine XS.iloadN X109.here hx rfl (hb hby d13_80) rfl ?_
          refine XS.iand X109.here hx rfl (hb hby d13_81) rfl ?_
          show Steps p.tables e below (T109.setTop (mkF m 82 #[.val (.ref r0), .val (.ref r1), .val (.int (31 : Int32)), .val (.int (-1 : Int32)), .val (.int i), .val (.int v2)] [(.int ((i + (1 : Int32)) &&& (31 : Int32)))])) _
          rw [← hv6]
          show Steps p.tables e below (T109.setTop (mkF m 82 #[.val (.ref r0), .val (.ref r1), .val (.int (31 : Int32)), .val (.int (-1 : Int32)), .val (.int i), .val (.int v2)] [(.int v6)])) _
          refine XS.istore X109.here hx rfl (hb hby d13_82) rfl (l' := #[.val (.ref r0), .val (.ref r1), .val (.int (31 : Int32)), .val (.int (-1 : Int32)), .val (.int v6), .val (.int v2)]) rfl ?_
          show Steps p.tables e below (T109.setTop (mkF m 84 #[.val (.ref r0), .val (.ref r1), .val (.int (31 : Int32)), .val (.int (-1 : Int32)), .val (.int v6), .val (.int v2)] [])) _
          refine XS.goto X109.here hx rfl (pc0 := 84) (pc' := 20) rfl (hb hby d13_84) (by decide) (by decide) ?_
          exact kt
        refine own_run hgo117 ?_
        have ym := own_Mat hV hM hn3 hi.2 hv2 hc28_1
        have yn : ¬ v2 = t := fun q => hc52_3 ((ym.mp q).1)
        exact ih _ _ _ v6 (.val (.int v2)) X109 N109 e109 Z0 K0 E_r0 F_slots F_hash1 F_hash2 A_ys A_y1 A_y2 E_r1 F_h1 F_h2 (Or.inr ⟨_, rfl, rfl⟩) (by rw [hv6]; exact own_and31 _) (by rw [hv6]; exact own_f3 hk hv2 hc28_1 yn)
theorem pd12 : parseMethodDescriptor "(J)I" = some ⟨[.long], some .int⟩ := by decide +kernel
theorem d13_0 : decode prog_13_method_3_code 0 = .ok (.aload_n 0, 1) := by decide +kernel
theorem d13_1 : decode prog_13_method_3_code 1 = .ok (.getfield 40, 3) := by decide +kernel
theorem d13_4 : decode prog_13_method_3_code 4 = .ok (.arraylength, 1) := by decide +kernel
theorem d13_5 : decode prog_13_method_3_code 5 = .ok (.iconst 1, 1) := by decide +kernel
theorem d13_6 : decode prog_13_method_3_code 6 = .ok (.isub, 1) := by decide +kernel
theorem d13_7 : decode prog_13_method_3_code 7 = .ok (.istore_n 2, 1) := by decide +kernel
theorem d13_8 : decode prog_13_method_3_code 8 = .ok (.iconst (-1), 1) := by decide +kernel
theorem d13_9 : decode prog_13_method_3_code 9 = .ok (.istore_n 3, 1) := by decide +kernel
theorem d13_10 : decode prog_13_method_3_code 10 = .ok (.aload_n 0, 1) := by decide +kernel
theorem d13_11 : decode prog_13_method_3_code 11 = .ok (.aload_n 1, 1) := by decide +kernel
theorem d13_12 : decode prog_13_method_3_code 12 = .ok (.invokevirtual 58, 3) := by decide +kernel
theorem d13_15 : decode prog_13_method_3_code 15 = .ok (.invokevirtual 64, 3) := by decide +kernel
theorem d13_18 : decode prog_13_method_3_code 18 = .ok (.istore 4, 2) := by decide +kernel
theorem d13_87 : decode prog_13_method_3_code 87 = .ok (.iload_n 3, 1) := by decide +kernel
theorem d13_88 : decode prog_13_method_3_code 88 = .ok (.ireturn, 1) := by decide +kernel
theorem ef_fd (m : MethodId) (r0 : Addr) (r1 : Addr) : entryFrame m #[(.ref r0), (.ref r1)] 6 = mkF m 0 #[.val (.ref r0), .val (.ref r1), .unset, .unset, .unset, .unset] [] := by (first | (simp [entryFrame, mkF, argsToLocals, Value.category]; done) | rfl)
def Qfd (Z : State) (r0 : Addr) (r1 : Addr) (ys : Addr) (y1 : Addr) (y2 : Addr) (f : Nat → Int32) (g1 : Nat → Int64) (g2 : Nat → Int64) (k1 : Int64) (k2 : Int64) (t : Int32) (n : Nat) (y : Int32) (h0 : Heap) (n0 : Nat) (v : Option Value) (h : Heap) (L : List Loc) : Prop := v = some (.int y) ∧ Fr n0 L ∧ h = h0
set_option maxRecDepth 65536 in
set_option maxHeartbeats 40000000 in
theorem rmfd (l : Launch) (Z : State) (a0 : Array Value) (hw : ∀ d ∈ tables_1, d.before a0 Z = true) (ws : List Jvm.Cond) (r0 : Addr) (r1 : Addr) (ys : Addr) (y1 : Addr) (y2 : Addr) (f : Nat → Int32) (g1 : Nat → Int64) (g2 : Nat → Int64) (k1 : Int64) (k2 : Int64) (t : Int32) (n : Nat) (y : Int32) (h0 : Heap) (n0 : Nat) (Z0 : n0 ≤ h0.size) (E_r0 : Exa Z h0 r0 "com/example/upper_falls/upperfalls/HeldKeys") (F_slots : Fld Z h0 r0 "com/example/upper_falls/upperfalls/HeldKeys" "slots" "[I" (.ref ys)) (F_hash1 : Fld Z h0 r0 "com/example/upper_falls/upperfalls/HeldKeys" "hash1" "[J" (.ref y1)) (F_hash2 : Fld Z h0 r0 "com/example/upper_falls/upperfalls/HeldKeys" "hash2" "[J" (.ref y2)) (A_ys : own_AI Z h0 ys .int 32 f) (A_y1 : own_AJ Z h0 y1 .long 16 g1) (A_y2 : own_AJ Z h0 y2 .long 16 g2) (E_r1 : Exa Z h0 r1 "com/example/upper_falls/upperfalls/KeyHash") (F_h1 : Fld Z h0 r1 "com/example/upper_falls/upperfalls/KeyHash" "h1" "J" (.long k1)) (F_h2 : Fld Z h0 r1 "com/example/upper_falls/upperfalls/KeyHash" "h2" "J" (.long k2)) (hV : own_V n f) (hM : own_M n g1 g2 t k1 k2) (hn3 : n ≤ 3) (hy : own_fnd f t 8 ((k1.toInt32) &&& (31 : Int32)) = some y) :
    MetFree l (⟨"com/example/upper_falls/upperfalls/HeldKeys", "find", "(Lcom/example/upper_falls/upperfalls/KeyHash;)I"⟩ : MethodName) (head1 (Jvm.Cond.code (⟨"com/example/upper_falls/upperfalls/HeldKeys", "find", "(Lcom/example/upper_falls/upperfalls/KeyHash;)I"⟩ : MethodName) prog_13_method_3_code 6 (some .int) :: ws) ({ frames := 1, cells := 0, slots := 0, locals := 40 } : Room)) (fun a U => a = #[(.ref r0), (.ref r1)] ∧ Z.Warmed39 U.vm ∧ U.heap = h0) (fun _ _ _ _ _ => True) (fun _ U o U' => ∃ v L, o = .returned v ∧ Qfd Z r0 r1 ys y1 y2 f g1 g2 k1 k2 t n y h0 n0 v U'.heap L ∧ FrameEnd U o U' L ({ frames := 1, cells := 0, slots := 0, locals := 40 } : Room).cells ({ frames := 1, cells := 0, slots := 0, locals := 40 } : Room).slots) := by
  refine MetFree.of_bodySF (plainFor_of_name pn9) hisR ?_
  intro p e s m args below meth c s₁ Bd hml0 hP hK
  obtain ⟨rfl, hZ, hh⟩ := hP
  have hx := Bd.exec
  have hby := Bd.bytes
  have hml : c.maxLocals = 6 := hml0
  have hown : s.vm.findClass "com/example/upper_falls/upperfalls/HeldKeys" = some m.cls := findClass_of_methodNamed Bd.named
  have hnm := (name_of_methodNamed Bd.named Bd.method).1
  have X0 : Stand p l e ({ frames := 1, cells := 0, slots := 0, locals := 40 } : Room) s m #[(.ref r0), (.ref r1)] below meth c s₁ [] 0 0 := Stand.of_body Bd
  have e0 : s₁.heap = h0 := by rw [← hh, Bd.state]; rfl
  have N0 := Fr.nil n0
  have K0 : Keep h0 h0 [] := Keep.refl h0 _
  show own_Go p e below s (Qfd Z r0 r1 ys y1 y2 f g1 g2 k1 k2 t n y h0 n0) ({ frames := 1, cells := 0, slots := 0, locals := 40 } : Room).cells ({ frames := 1, cells := 0, slots := 0, locals := 40 } : Room).slots (s₁.setTop (entryFrame m #[(.ref r0), (.ref r1)] 6))
  refine own_go (fun t k => castTop (ef_fd m r0 r1) k) ?_
  obtain ⟨T101, X101, e101, st101⟩ := getF X0 hx hZ hown (host := "") (Or.inl (own_wd hw 69 rfl)) Via.refl e0 F_slots (g := (mkF m 1 #[.val (.ref r0), .val (.ref r1), .unset, .unset, .unset, .unset] [(.ref r0)])) rfl rfl (hb hby d13_1)
  obtain ⟨cq102, kq102, q102a, q102b, q102c⟩ := isOf hZ e101 E_r1
  obtain ⟨_, _, ⟨T102, L102, k102, n102⟩, -, X102, ⟨Lc102, hQ102, l102, y102, z102⟩, st102⟩ := X101.virtualBack hx (y := (⟨"com/example/upper_falls/upperfalls/KeyHash", "h1", "()J"⟩ : MethodName)) (z := (⟨"com/example/upper_falls/upperfalls/KeyHash", "h1", "()J"⟩ : MethodName)) hown (mvT hZ (own_wd hw 81 rfl)) (mvT hZ (own_wd hw 82 rfl)) (notFace_of_selects (args := #[]) (mvT hZ (own_wd hw 84 rfl))) (mvT hZ (own_wd hw 84 rfl)) (mvT hZ (own_wd hw 83 rfl)) (by decide) (backOf (W := 1) (rmh1 l Z a0 hw [] r1 k1 h0 n0 Z0 F_h1) hZ (own_wd hw 85 rfl) (own_wd hw 2 rfl) (by decide) (by decide)) q102a q102c (g := (mkF m 12 #[.val (.ref r0), .val (.ref r1), .val (.int (31 : Int32)), .val (.int (-1 : Int32)), .unset, .unset] [(.ref r1), (.ref r0)])) rfl (by rw [hml]; rfl) (Steps.refl _) (argsL := []) (rest := [(.ref r0)]) (lenOf pd11 rfl) rfl (by show 2 * 0 + _ ≤ _; exact Nat.le_of_eq rfl) (hb hby d13_12) (fun _ _ => ⟨rfl, e101, (by decide : 0 + 0 ≤ _), (by decide : 0 + 0 ≤ _)⟩)
  dsimp only [Pt.U, Pt.locs, Pt.cells, Pt.slots] at X102 l102 y102 z102 st102 hQ102
  subst l102 y102 z102
  obtain ⟨rfl, N102q, e102⟩ := hQ102
  have N102 := Fr.app N0 N102q
  obtain ⟨cq103, q103, q103'⟩ := E_r0.cell
  obtain ⟨_, _, ⟨T103, L103, k103, n103⟩, -, X103, ⟨Lc103, hQ103, l103, y103, z103⟩, st103⟩ := X102.privateBack hx (y := (⟨"com/example/upper_falls/upperfalls/HeldKeys", "home", "(J)I"⟩ : MethodName)) hown (mvT hZ (own_wd hw 86 rfl)) (mvT hZ (own_wd hw 87 rfl)) (own_selPriv (mvT hZ (own_wd hw 26 rfl)) (mvT hZ (own_wd hw 87 rfl)) (Cond.privateMethod_at (mvP hZ (own_wd hw 88 rfl) (args := #[]))) (by decide)) (Cond.privateMethod_at (mvP hZ (own_wd hw 88 rfl) (args := #[]))) (mvT hZ (own_wd hw 89 rfl)) (by decide) (backOf (W := 0) (rmho l Z a0 hw [] r0 k1 ys f h0 n0 Z0 F_slots A_ys) hZ (own_wd hw 89 rfl) (own_wd hw 27 rfl) (by decide) (by decide)) (g := (mkF m 15 #[.val (.ref r0), .val (.ref r1), .val (.int (31 : Int32)), .val (.int (-1 : Int32)), .unset, .unset] [(.long k1), (.ref r0)])) rfl (by rw [hml]; rfl) (Steps.refl _) (a := r0) (by rw [e102]; exact q103) q103' (argsL := [(.long k1)]) (rest := []) (lenOf pd12 rfl) rfl (by show 2 * 0 + _ ≤ _; exact Nat.le_of_eq rfl) (hb hby d13_15) (fun _ _ => ⟨rfl, e102, (by decide : 0 + 0 ≤ _), (by decide : 0 + 0 ≤ _)⟩)
  dsimp only [Pt.U, Pt.locs, Pt.cells, Pt.slots] at X103 l103 y103 z103 st103 hQ103
  subst l103 y103 z103
  obtain ⟨rfl, N103q, e103⟩ := hQ103
  have N103 := Fr.app N102 N103q
  obtain ⟨v1, hv1⟩ : ∃ z : Int32, z = ((k1.toInt32) &&& (31 : Int32)) := ⟨_, rfl⟩
  obtain ⟨_, ⟨T1, lc1, i1, sl1, rfl, X1, N1, e1⟩, stR⟩ := own_findL r0 r1 ys y1 y2 f g1 g2 k1 k2 t n y hx hZ hw hby hml hown hV hM hn3 8 _ _ _ v1 .unset X103 N103 e103 Z0 (Keep.refl _ _) E_r0 F_slots F_hash1 F_hash2 A_ys A_y1 A_y2 E_r1 F_h1 F_h2 (Or.inl rfl) (by rw [hv1]; exact own_and31 _) (by rw [hv1]; exact hy)
  have hgo104 : ∀ t, Steps p.tables e below (T1.setTop (mkF m 88 #[.val (.ref r0), .val (.ref r1), .val (.int (31 : Int32)), .val (.int y), .val (.int i1), sl1] [(.int y)])) t → Steps p.tables e below (s₁.setTop (mkF m 0 #[.val (.ref r0), .val (.ref r1), .unset, .unset, .unset, .unset] [])) t := by
    intro t kt
    show Steps p.tables e below (s₁.setTop (mkF m 0 #[.val (.ref r0), .val (.ref r1), .unset, .unset, .unset, .unset] [])) _
    refine XS.aloadN X0.here hx rfl (hb hby d13_0) rfl rfl ?_
    show Steps p.tables e below (s₁.setTop (mkF m 1 #[.val (.ref r0), .val (.ref r1), .unset, .unset, .unset, .unset] [(.ref r0)])) _
    refine st101 _ ?_
    show Steps p.tables e below (T101.setTop (mkF m 4 #[.val (.ref r0), .val (.ref r1), .unset, .unset, .unset, .unset] [(.ref ys)])) _
    refine own_lenI X101 hx hZ e101 A_ys (g := (mkF m 4 #[.val (.ref r0), .val (.ref r1), .unset, .unset, .unset, .unset] [(.ref ys)])) rfl rfl (hb hby d13_4) _ ?_
    show Steps p.tables e below (T101.setTop (mkF m 5 #[.val (.ref r0), .val (.ref r1), .unset, .unset, .unset, .unset] [(.int (32 : Int32))])) _
    refine XS.iconst X101.here hx rfl (hb hby d13_5) ?_
    refine XS.isub X101.here hx rfl (hb hby d13_6) rfl ?_
    show Steps p.tables e below (T101.setTop (mkF m 7 #[.val (.ref r0), .val (.ref r1), .unset, .unset, .unset, .unset] [(.int (31 : Int32))])) _
    refine XS.istoreN X101.here hx rfl (hb hby d13_7) rfl (l' := #[.val (.ref r0), .val (.ref r1), .val (.int (31 : Int32)), .unset, .unset, .unset]) rfl ?_
    show Steps p.tables e below (T101.setTop (mkF m 8 #[.val (.ref r0), .val (.ref r1), .val (.int (31 : Int32)), .unset, .unset, .unset] [])) _
    refine XS.iconst X101.here hx rfl (hb hby d13_8) ?_
    refine XS.istoreN X101.here hx rfl (hb hby d13_9) rfl (l' := #[.val (.ref r0), .val (.ref r1), .val (.int (31 : Int32)), .val (.int (-1 : Int32)), .unset, .unset]) rfl ?_
    show Steps p.tables e below (T101.setTop (mkF m 10 #[.val (.ref r0), .val (.ref r1), .val (.int (31 : Int32)), .val (.int (-1 : Int32)), .unset, .unset] [])) _
    refine XS.aloadN X101.here hx rfl (hb hby d13_10) rfl rfl ?_
    refine XS.aloadN X101.here hx rfl (hb hby d13_11) rfl rfl ?_
    show Steps p.tables e below (T101.setTop (mkF m 12 #[.val (.ref r0), .val (.ref r1), .val (.int (31 : Int32)), .val (.int (-1 : Int32)), .unset, .unset] [(.ref r1), (.ref r0)])) _
    refine st102.trans ?_
    show Steps p.tables e below (T102.setTop (mkF m 15 #[.val (.ref r0), .val (.ref r1), .val (.int (31 : Int32)), .val (.int (-1 : Int32)), .unset, .unset] [(.long k1), (.ref r0)])) _
    refine st103.trans ?_
    show Steps p.tables e below (T103.setTop (mkF m 18 #[.val (.ref r0), .val (.ref r1), .val (.int (31 : Int32)), .val (.int (-1 : Int32)), .unset, .unset] [(.int ((k1.toInt32) &&& (31 : Int32)))])) _
    rw [← hv1]
    show Steps p.tables e below (T103.setTop (mkF m 18 #[.val (.ref r0), .val (.ref r1), .val (.int (31 : Int32)), .val (.int (-1 : Int32)), .unset, .unset] [(.int v1)])) _
    refine XS.istore X103.here hx rfl (hb hby d13_18) rfl (l' := #[.val (.ref r0), .val (.ref r1), .val (.int (31 : Int32)), .val (.int (-1 : Int32)), .val (.int v1), .unset]) rfl ?_
    show Steps p.tables e below (T103.setTop (mkF m 20 #[.val (.ref r0), .val (.ref r1), .val (.int (31 : Int32)), .val (.int (-1 : Int32)), .val (.int v1), .unset] [])) _
    refine stR _ ?_
    show Steps p.tables e below (T1.setTop (mkF m 87 #[.val (.ref r0), .val (.ref r1), .val (.int (31 : Int32)), .val (.int y), .val (.int i1), sl1] [])) _
    refine XS.iloadN X1.here hx rfl (hb hby d13_87) rfl ?_
    exact kt
  refine own_go hgo104 ?_
  exact own_retI X1 hx Bd.returns Bd.notSynchronized (hb hby d13_88) (by decide) (by decide) (by rw [e1]; exact ⟨(by subst hv1; rfl), N1, rfl⟩)
theorem d17_15 : decode prog_13_method_11_code 15 = .ok (.aload_n 0, 1) := by decide +kernel
theorem d17_16 : decode prog_13_method_11_code 16 = .ok (.getfield 40, 3) := by decide +kernel
theorem d17_19 : decode prog_13_method_11_code 19 = .ok (.iload 4, 2) := by decide +kernel
theorem d17_21 : decode prog_13_method_11_code 21 = .ok (.iaload, 1) := by decide +kernel
theorem d17_22 : decode prog_13_method_11_code 22 = .ok (.iconst (-1), 1) := by decide +kernel
theorem d17_23 : decode prog_13_method_11_code 23 = .ok (.if_icmp .eq 14, 3) := by decide +kernel
theorem d17_26 : decode prog_13_method_11_code 26 = .ok (.iload 4, 2) := by decide +kernel
theorem d17_28 : decode prog_13_method_11_code 28 = .ok (.iconst 1, 1) := by decide +kernel
theorem d17_29 : decode prog_13_method_11_code 29 = .ok (.iadd, 1) := by decide +kernel
theorem d17_30 : decode prog_13_method_11_code 30 = .ok (.iload_n 3, 1) := by decide +kernel
theorem d17_31 : decode prog_13_method_11_code 31 = .ok (.iand, 1) := by decide +kernel
theorem d17_32 : decode prog_13_method_11_code 32 = .ok (.istore 4, 2) := by decide +kernel
theorem d17_34 : decode prog_13_method_11_code 34 = .ok (.goto (-19), 3) := by decide +kernel
set_option maxRecDepth 65536 in
set_option maxHeartbeats 40000000 in
theorem own_empL {p : Program} {l : Launch} {e : Env} {R : Room} {s : State} {m : MethodId} {args : Array Value} {below : List Frame} {meth : Method} {c : Code} {cells slots : Nat} {Z : State} {a0 : Array Value} {h0 : Heap} {n0 : Nat} (r0 : Addr) (q1 : Int64) (ys : Addr) (f : Nat → Int32) (y : Int32) (hx : p.tables.exec = Jvm.exec) (hZ : Z.Warmed39 s.vm) (hw : ∀ d ∈ tables_1, d.before a0 Z = true) (hby : c.code = prog_13_method_11_code) (hml : c.maxLocals = 5) (hown : s.vm.findClass "com/example/upper_falls/upperfalls/HeldKeys" = some m.cls) :
    ∀ (k : Nat) (T : State) (locs : List Loc) (h : Heap) (i : Int32), Stand p l e R s m args below meth c T locs cells slots → Fr n0 locs → T.heap = h → n0 ≤ h.size → Keep h0 h [] → Exa Z h r0 "com/example/upper_falls/upperfalls/HeldKeys" → Fld Z h r0 "com/example/upper_falls/upperfalls/HeldKeys" "slots" "[I" (.ref ys) → own_AI Z h ys .int 32 f → (¬ i < 0 ∧ i.toNatClampNeg < 32) → own_emp f k i = some y → own_Run p e below (T.setTop (mkF m 15 #[.val (.ref r0), .val (.long q1), .second, .val (.int (31 : Int32)), .val (.int i)] [])) (fun B => ∃ (T' : State) (locs' : List Loc), B = T'.setTop (mkF m 37 #[.val (.ref r0), .val (.long q1), .second, .val (.int (31 : Int32)), .val (.int y)] []) ∧ Stand p l e R s m args below meth c T' locs' cells slots ∧ Fr n0 locs' ∧ T'.heap = h) := by
  intro k
  induction k with
  | zero =>
    intro T locs h i X0 N0 e0 Z0 K0 E_r0 F_slots A_ys hi hk
    cases hk
  | succ k ih =>
    intro T locs h i X0 N0 e0 Z0 K0 E_r0 F_slots A_ys hi hk
    obtain ⟨T101, X101, e101, st101⟩ := getF X0 hx hZ hown (host := "") (Or.inl (own_wd hw 69 rfl)) Via.refl e0 F_slots (g := (mkF m 16 #[.val (.ref r0), .val (.long q1), .second, .val (.int (31 : Int32)), .val (.int i)] [(.ref r0)])) rfl rfl (hb hby d17_16)
    have hin21_102 : ¬ i < 0 ∧ i.toNatClampNeg < 32 := hi
    have hgo103 : ∀ t, Steps p.tables e below (T101.setTop (mkF m 23 #[.val (.ref r0), .val (.long q1), .second, .val (.int (31 : Int32)), .val (.int i)] [(.int (-1 : Int32)), (.int (f i.toNatClampNeg))])) t → Steps p.tables e below (T.setTop (mkF m 15 #[.val (.ref r0), .val (.long q1), .second, .val (.int (31 : Int32)), .val (.int i)] [])) t := by
      intro t kt
      show Steps p.tables e below (T.setTop (mkF m 15 #[.val (.ref r0), .val (.long q1), .second, .val (.int (31 : Int32)), .val (.int i)] [])) _
      refine XS.aloadN X0.here hx rfl (hb hby d17_15) rfl rfl ?_
      show Steps p.tables e below (T.setTop (mkF m 16 #[.val (.ref r0), .val (.long q1), .second, .val (.int (31 : Int32)), .val (.int i)] [(.ref r0)])) _
      refine st101 _ ?_
      show Steps p.tables e below (T101.setTop (mkF m 19 #[.val (.ref r0), .val (.long q1), .second, .val (.int (31 : Int32)), .val (.int i)] [(.ref ys)])) _
      refine XS.iload X101.here hx rfl (hb hby d17_19) rfl ?_
      show Steps p.tables e below (T101.setTop (mkF m 21 #[.val (.ref r0), .val (.long q1), .second, .val (.int (31 : Int32)), .val (.int i)] [(.int i), (.ref ys)])) _
      refine own_ldI X101 hx hZ e101 A_ys (j := i) hin21_102 (g := (mkF m 21 #[.val (.ref r0), .val (.long q1), .second, .val (.int (31 : Int32)), .val (.int i)] [(.int i), (.ref ys)])) rfl rfl (hb hby d17_21) _ ?_
      show Steps p.tables e below (T101.setTop (mkF m 22 #[.val (.ref r0), .val (.long q1), .second, .val (.int (31 : Int32)), .val (.int i)] [(.int (f i.toNatClampNeg))])) _
      refine XS.iconst X101.here hx rfl (hb hby d17_22) ?_
      exact kt
    refine own_run hgo103 ?_
    by_cases hc23_1 : (f i.toNatClampNeg) = (-1 : Int32)
    · have hgo104 : ∀ t, Steps p.tables e below (T101.setTop (mkF m 37 #[.val (.ref r0), .val (.long q1), .second, .val (.int (31 : Int32)), .val (.int i)] [])) t → Steps p.tables e below (T101.setTop (mkF m 23 #[.val (.ref r0), .val (.long q1), .second, .val (.int (31 : Int32)), .val (.int i)] [(.int (-1 : Int32)), (.int (f i.toNatClampNeg))])) t := by
        intro t kt
        show Steps p.tables e below (T101.setTop (mkF m 23 #[.val (.ref r0), .val (.long q1), .second, .val (.int (31 : Int32)), .val (.int i)] [(.int (-1 : Int32)), (.int (f i.toNatClampNeg))])) _
        refine XS.icmpYes X101.here hx rfl (pc0 := 23) (pc' := 37) rfl (hb hby d17_23) rfl (teq hc23_1).1 (by decide) (by decide) ?_
        exact kt
      refine own_run hgo104 ?_
      rw [own_e1 hk hc23_1]
      exact ⟨_, ⟨_, _, rfl, X101, N0, e101⟩, fun t kt => kt⟩
    · obtain ⟨v2, hv2⟩ : ∃ z : Int32, z = ((i + (1 : Int32)) &&& (31 : Int32)) := ⟨_, rfl⟩
      have hgo105 : ∀ t, Steps p.tables e below (T101.setTop (mkF m 15 #[.val (.ref r0), .val (.long q1), .second, .val (.int (31 : Int32)), .val (.int v2)] [])) t → Steps p.tables e below (T101.setTop (mkF m 23 #[.val (.ref r0), .val (.long q1), .second, .val (.int (31 : Int32)), .val (.int i)] [(.int (-1 : Int32)), (.int (f i.toNatClampNeg))])) t := by
        intro t kt
        show Steps p.tables e below (T101.setTop (mkF m 23 #[.val (.ref r0), .val (.long q1), .second, .val (.int (31 : Int32)), .val (.int i)] [(.int (-1 : Int32)), (.int (f i.toNatClampNeg))])) _
        refine XS.icmpNo X101.here hx rfl (hb hby d17_23) rfl (feq hc23_1).1 ?_
        show Steps p.tables e below (T101.setTop (mkF m 26 #[.val (.ref r0), .val (.long q1), .second, .val (.int (31 : Int32)), .val (.int i)] [])) _
        refine XS.iload X101.here hx rfl (hb hby d17_26) rfl ?_
        refine XS.iconst X101.here hx rfl (hb hby d17_28) ?_
        refine XS.iadd X101.here hx rfl (hb hby d17_29) rfl ?_
        show Steps p.tables e below (T101.setTop (mkF m 30 #[.val (.ref r0), .val (.long q1), .second, .val (.int (31 : Int32)), .val (.int i)] [(.int (i + (1 : Int32)))])) _
        refine XS.iloadN X101.here hx rfl (hb hby d17_30) rfl ?_
        refine XS.iand X101.here hx rfl (hb hby d17_31) rfl ?_
        show Steps p.tables e below (T101.setTop (mkF m 32 #[.val (.ref r0), .val (.long q1), .second, .val (.int (31 : Int32)), .val (.int i)] [(.int ((i + (1 : Int32)) &&& (31 : Int32)))])) _
        rw [← hv2]
        show Steps p.tables e below (T101.setTop (mkF m 32 #[.val (.ref r0), .val (.long q1), .second, .val (.int (31 : Int32)), .val (.int i)] [(.int v2)])) _
        refine XS.istore X101.here hx rfl (hb hby d17_32) rfl (l' := #[.val (.ref r0), .val (.long q1), .second, .val (.int (31 : Int32)), .val (.int v2)]) rfl ?_
        show Steps p.tables e below (T101.setTop (mkF m 34 #[.val (.ref r0), .val (.long q1), .second, .val (.int (31 : Int32)), .val (.int v2)] [])) _
        refine XS.goto X101.here hx rfl (pc0 := 34) (pc' := 15) rfl (hb hby d17_34) (by decide) (by decide) ?_
        exact kt
      refine own_run hgo105 ?_
      exact ih _ _ _ v2 X101 N0 e101 Z0 K0 E_r0 F_slots A_ys (by rw [hv2]; exact own_and31 _) (by rw [hv2]; exact own_e2 hk hc23_1)
theorem d17_0 : decode prog_13_method_11_code 0 = .ok (.aload_n 0, 1) := by decide +kernel
theorem d17_1 : decode prog_13_method_11_code 1 = .ok (.getfield 40, 3) := by decide +kernel
theorem d17_4 : decode prog_13_method_11_code 4 = .ok (.arraylength, 1) := by decide +kernel
theorem d17_5 : decode prog_13_method_11_code 5 = .ok (.iconst 1, 1) := by decide +kernel
theorem d17_6 : decode prog_13_method_11_code 6 = .ok (.isub, 1) := by decide +kernel
theorem d17_7 : decode prog_13_method_11_code 7 = .ok (.istore_n 3, 1) := by decide +kernel
theorem d17_8 : decode prog_13_method_11_code 8 = .ok (.aload_n 0, 1) := by decide +kernel
theorem d17_9 : decode prog_13_method_11_code 9 = .ok (.lload_n 1, 1) := by decide +kernel
theorem d17_10 : decode prog_13_method_11_code 10 = .ok (.invokevirtual 64, 3) := by decide +kernel
theorem d17_13 : decode prog_13_method_11_code 13 = .ok (.istore 4, 2) := by decide +kernel
theorem d17_37 : decode prog_13_method_11_code 37 = .ok (.iload 4, 2) := by decide +kernel
theorem d17_39 : decode prog_13_method_11_code 39 = .ok (.ireturn, 1) := by decide +kernel
theorem ef_es (m : MethodId) (r0 : Addr) (q1 : Int64) : entryFrame m #[(.ref r0), (.long q1)] 5 = mkF m 0 #[.val (.ref r0), .val (.long q1), .second, .unset, .unset] [] := by (first | (simp [entryFrame, mkF, argsToLocals, Value.category]; done) | rfl)
def Qes (Z : State) (r0 : Addr) (q1 : Int64) (ys : Addr) (f : Nat → Int32) (y : Int32) (h0 : Heap) (n0 : Nat) (v : Option Value) (h : Heap) (L : List Loc) : Prop := v = some (.int y) ∧ Fr n0 L ∧ h = h0
set_option maxRecDepth 65536 in
set_option maxHeartbeats 40000000 in
theorem rmes (l : Launch) (Z : State) (a0 : Array Value) (hw : ∀ d ∈ tables_1, d.before a0 Z = true) (ws : List Jvm.Cond) (r0 : Addr) (q1 : Int64) (ys : Addr) (f : Nat → Int32) (y : Int32) (h0 : Heap) (n0 : Nat) (Z0 : n0 ≤ h0.size) (E_r0 : Exa Z h0 r0 "com/example/upper_falls/upperfalls/HeldKeys") (F_slots : Fld Z h0 r0 "com/example/upper_falls/upperfalls/HeldKeys" "slots" "[I" (.ref ys)) (A_ys : own_AI Z h0 ys .int 32 f) (hy : own_emp f 8 ((q1.toInt32) &&& (31 : Int32)) = some y) :
    MetFree l (⟨"com/example/upper_falls/upperfalls/HeldKeys", "emptySlot", "(J)I"⟩ : MethodName) (head1 (Jvm.Cond.code (⟨"com/example/upper_falls/upperfalls/HeldKeys", "emptySlot", "(J)I"⟩ : MethodName) prog_13_method_11_code 5 (some .int) :: ws) ({ frames := 1, cells := 0, slots := 0, locals := 14 } : Room)) (fun a U => a = #[(.ref r0), (.long q1)] ∧ Z.Warmed39 U.vm ∧ U.heap = h0) (fun _ _ _ _ _ => True) (fun _ U o U' => ∃ v L, o = .returned v ∧ Qes Z r0 q1 ys f y h0 n0 v U'.heap L ∧ FrameEnd U o U' L ({ frames := 1, cells := 0, slots := 0, locals := 14 } : Room).cells ({ frames := 1, cells := 0, slots := 0, locals := 14 } : Room).slots) := by
  refine MetFree.of_bodySF (plainFor_of_name pn9) hisR ?_
  intro p e s m args below meth c s₁ Bd hml0 hP hK
  obtain ⟨rfl, hZ, hh⟩ := hP
  have hx := Bd.exec
  have hby := Bd.bytes
  have hml : c.maxLocals = 5 := hml0
  have hown : s.vm.findClass "com/example/upper_falls/upperfalls/HeldKeys" = some m.cls := findClass_of_methodNamed Bd.named
  have hnm := (name_of_methodNamed Bd.named Bd.method).1
  have X0 : Stand p l e ({ frames := 1, cells := 0, slots := 0, locals := 14 } : Room) s m #[(.ref r0), (.long q1)] below meth c s₁ [] 0 0 := Stand.of_body Bd
  have e0 : s₁.heap = h0 := by rw [← hh, Bd.state]; rfl
  have N0 := Fr.nil n0
  have K0 : Keep h0 h0 [] := Keep.refl h0 _
  show own_Go p e below s (Qes Z r0 q1 ys f y h0 n0) ({ frames := 1, cells := 0, slots := 0, locals := 14 } : Room).cells ({ frames := 1, cells := 0, slots := 0, locals := 14 } : Room).slots (s₁.setTop (entryFrame m #[(.ref r0), (.long q1)] 5))
  refine own_go (fun t k => castTop (ef_es m r0 q1) k) ?_
  obtain ⟨T101, X101, e101, st101⟩ := getF X0 hx hZ hown (host := "") (Or.inl (own_wd hw 69 rfl)) Via.refl e0 F_slots (g := (mkF m 1 #[.val (.ref r0), .val (.long q1), .second, .unset, .unset] [(.ref r0)])) rfl rfl (hb hby d17_1)
  obtain ⟨cq102, q102, q102'⟩ := E_r0.cell
  obtain ⟨_, _, ⟨T102, L102, k102, n102⟩, -, X102, ⟨Lc102, hQ102, l102, y102, z102⟩, st102⟩ := X101.privateBack hx (y := (⟨"com/example/upper_falls/upperfalls/HeldKeys", "home", "(J)I"⟩ : MethodName)) hown (mvT hZ (own_wd hw 86 rfl)) (mvT hZ (own_wd hw 87 rfl)) (own_selPriv (mvT hZ (own_wd hw 26 rfl)) (mvT hZ (own_wd hw 87 rfl)) (Cond.privateMethod_at (mvP hZ (own_wd hw 88 rfl) (args := #[]))) (by decide)) (Cond.privateMethod_at (mvP hZ (own_wd hw 88 rfl) (args := #[]))) (mvT hZ (own_wd hw 89 rfl)) (by decide) (backOf (W := 0) (rmho l Z a0 hw [] r0 q1 ys f h0 n0 Z0 F_slots A_ys) hZ (own_wd hw 89 rfl) (own_wd hw 27 rfl) (by decide) (by decide)) (g := (mkF m 10 #[.val (.ref r0), .val (.long q1), .second, .val (.int (31 : Int32)), .unset] [(.long q1), (.ref r0)])) rfl (by rw [hml]; rfl) (Steps.refl _) (a := r0) (by rw [e101]; exact q102) q102' (argsL := [(.long q1)]) (rest := []) (lenOf pd12 rfl) rfl (by show 2 * 0 + _ ≤ _; exact Nat.le_of_eq rfl) (hb hby d17_10) (fun _ _ => ⟨rfl, e101, (by decide : 0 + 0 ≤ _), (by decide : 0 + 0 ≤ _)⟩)
  dsimp only [Pt.U, Pt.locs, Pt.cells, Pt.slots] at X102 l102 y102 z102 st102 hQ102
  subst l102 y102 z102
  obtain ⟨rfl, N102q, e102⟩ := hQ102
  have N102 := Fr.app N0 N102q
  obtain ⟨v1, hv1⟩ : ∃ z : Int32, z = ((q1.toInt32) &&& (31 : Int32)) := ⟨_, rfl⟩
  obtain ⟨_, ⟨T1, lc1, rfl, X1, N1, e1⟩, stR⟩ := own_empL r0 q1 ys f y hx hZ hw hby hml hown 8 _ _ _ v1 X102 N102 e102 Z0 (Keep.refl _ _) E_r0 F_slots A_ys (by rw [hv1]; exact own_and31 _) (by rw [hv1]; exact hy)
  have hgo103 : ∀ t, Steps p.tables e below (T1.setTop (mkF m 39 #[.val (.ref r0), .val (.long q1), .second, .val (.int (31 : Int32)), .val (.int y)] [(.int y)])) t → Steps p.tables e below (s₁.setTop (mkF m 0 #[.val (.ref r0), .val (.long q1), .second, .unset, .unset] [])) t := by
    intro t kt
    show Steps p.tables e below (s₁.setTop (mkF m 0 #[.val (.ref r0), .val (.long q1), .second, .unset, .unset] [])) _
    refine XS.aloadN X0.here hx rfl (hb hby d17_0) rfl rfl ?_
    show Steps p.tables e below (s₁.setTop (mkF m 1 #[.val (.ref r0), .val (.long q1), .second, .unset, .unset] [(.ref r0)])) _
    refine st101 _ ?_
    show Steps p.tables e below (T101.setTop (mkF m 4 #[.val (.ref r0), .val (.long q1), .second, .unset, .unset] [(.ref ys)])) _
    refine own_lenI X101 hx hZ e101 A_ys (g := (mkF m 4 #[.val (.ref r0), .val (.long q1), .second, .unset, .unset] [(.ref ys)])) rfl rfl (hb hby d17_4) _ ?_
    show Steps p.tables e below (T101.setTop (mkF m 5 #[.val (.ref r0), .val (.long q1), .second, .unset, .unset] [(.int (32 : Int32))])) _
    refine XS.iconst X101.here hx rfl (hb hby d17_5) ?_
    refine XS.isub X101.here hx rfl (hb hby d17_6) rfl ?_
    show Steps p.tables e below (T101.setTop (mkF m 7 #[.val (.ref r0), .val (.long q1), .second, .unset, .unset] [(.int (31 : Int32))])) _
    refine XS.istoreN X101.here hx rfl (hb hby d17_7) rfl (l' := #[.val (.ref r0), .val (.long q1), .second, .val (.int (31 : Int32)), .unset]) rfl ?_
    show Steps p.tables e below (T101.setTop (mkF m 8 #[.val (.ref r0), .val (.long q1), .second, .val (.int (31 : Int32)), .unset] [])) _
    refine XS.aloadN X101.here hx rfl (hb hby d17_8) rfl rfl ?_
    refine XS.lloadN X101.here hx rfl (hb hby d17_9) rfl ?_
    show Steps p.tables e below (T101.setTop (mkF m 10 #[.val (.ref r0), .val (.long q1), .second, .val (.int (31 : Int32)), .unset] [(.long q1), (.ref r0)])) _
    refine st102.trans ?_
    show Steps p.tables e below (T102.setTop (mkF m 13 #[.val (.ref r0), .val (.long q1), .second, .val (.int (31 : Int32)), .unset] [(.int ((q1.toInt32) &&& (31 : Int32)))])) _
    rw [← hv1]
    show Steps p.tables e below (T102.setTop (mkF m 13 #[.val (.ref r0), .val (.long q1), .second, .val (.int (31 : Int32)), .unset] [(.int v1)])) _
    refine XS.istore X102.here hx rfl (hb hby d17_13) rfl (l' := #[.val (.ref r0), .val (.long q1), .second, .val (.int (31 : Int32)), .val (.int v1)]) rfl ?_
    show Steps p.tables e below (T102.setTop (mkF m 15 #[.val (.ref r0), .val (.long q1), .second, .val (.int (31 : Int32)), .val (.int v1)] [])) _
    refine stR _ ?_
    show Steps p.tables e below (T1.setTop (mkF m 37 #[.val (.ref r0), .val (.long q1), .second, .val (.int (31 : Int32)), .val (.int y)] [])) _
    refine XS.iload X1.here hx rfl (hb hby d17_37) rfl ?_
    exact kt
  refine own_go hgo103 ?_
  exact own_retI X1 hx Bd.returns Bd.notSynchronized (hb hby d17_39) (by decide) (by decide) (by rw [e1]; exact ⟨(by subst hv1; rfl), N1, rfl⟩)
theorem pd13 : parseMethodDescriptor "(Lcom/example/upper_falls/upperfalls/KeyHash;)I" = some ⟨[(.object "com/example/upper_falls/upperfalls/KeyHash")], some .int⟩ := by decide +kernel
theorem d12_0 : decode prog_13_method_4_code 0 = .ok (.aload_n 0, 1) := by decide +kernel
theorem d12_1 : decode prog_13_method_4_code 1 = .ok (.aload_n 1, 1) := by decide +kernel
theorem d12_2 : decode prog_13_method_4_code 2 = .ok (.invokevirtual 71, 3) := by decide +kernel
theorem d12_5 : decode prog_13_method_4_code 5 = .ok (.istore_n 2, 1) := by decide +kernel
theorem d12_6 : decode prog_13_method_4_code 6 = .ok (.iload_n 2, 1) := by decide +kernel
theorem d12_7 : decode prog_13_method_4_code 7 = .ok (.iconst (-1), 1) := by decide +kernel
theorem d12_8 : decode prog_13_method_4_code 8 = .ok (.if_icmp .ne 82, 3) := by decide +kernel
theorem d12_11 : decode prog_13_method_4_code 11 = .ok (.aload_n 0, 1) := by decide +kernel
theorem d12_12 : decode prog_13_method_4_code 12 = .ok (.getfield 43, 3) := by decide +kernel
theorem d12_15 : decode prog_13_method_4_code 15 = .ok (.ifCond .le 22, 3) := by decide +kernel
theorem d12_37 : decode prog_13_method_4_code 37 = .ok (.aload_n 0, 1) := by decide +kernel
theorem d12_38 : decode prog_13_method_4_code 38 = .ok (.dup, 1) := by decide +kernel
theorem d12_39 : decode prog_13_method_4_code 39 = .ok (.getfield 46, 3) := by decide +kernel
theorem d12_42 : decode prog_13_method_4_code 42 = .ok (.dup_x1, 1) := by decide +kernel
theorem d12_43 : decode prog_13_method_4_code 43 = .ok (.iconst 1, 1) := by decide +kernel
theorem d12_44 : decode prog_13_method_4_code 44 = .ok (.iadd, 1) := by decide +kernel
theorem d12_45 : decode prog_13_method_4_code 45 = .ok (.putfield 46, 3) := by decide +kernel
theorem d12_48 : decode prog_13_method_4_code 48 = .ok (.istore_n 2, 1) := by decide +kernel
theorem d12_49 : decode prog_13_method_4_code 49 = .ok (.aload_n 0, 1) := by decide +kernel
theorem d12_50 : decode prog_13_method_4_code 50 = .ok (.getfield 19, 3) := by decide +kernel
theorem d12_53 : decode prog_13_method_4_code 53 = .ok (.iload_n 2, 1) := by decide +kernel
theorem d12_54 : decode prog_13_method_4_code 54 = .ok (.aload_n 1, 1) := by decide +kernel
theorem d12_55 : decode prog_13_method_4_code 55 = .ok (.invokevirtual 58, 3) := by decide +kernel
theorem d12_58 : decode prog_13_method_4_code 58 = .ok (.lastore, 1) := by decide +kernel
theorem d12_59 : decode prog_13_method_4_code 59 = .ok (.aload_n 0, 1) := by decide +kernel
theorem d12_60 : decode prog_13_method_4_code 60 = .ok (.getfield 23, 3) := by decide +kernel
theorem d12_63 : decode prog_13_method_4_code 63 = .ok (.iload_n 2, 1) := by decide +kernel
theorem d12_64 : decode prog_13_method_4_code 64 = .ok (.aload_n 1, 1) := by decide +kernel
theorem d12_65 : decode prog_13_method_4_code 65 = .ok (.invokevirtual 68, 3) := by decide +kernel
theorem d12_68 : decode prog_13_method_4_code 68 = .ok (.lastore, 1) := by decide +kernel
theorem d12_69 : decode prog_13_method_4_code 69 = .ok (.aload_n 0, 1) := by decide +kernel
theorem d12_70 : decode prog_13_method_4_code 70 = .ok (.getfield 26, 3) := by decide +kernel
theorem d12_73 : decode prog_13_method_4_code 73 = .ok (.iload_n 2, 1) := by decide +kernel
theorem d12_74 : decode prog_13_method_4_code 74 = .ok (.lconst 0, 1) := by decide +kernel
theorem d12_75 : decode prog_13_method_4_code 75 = .ok (.lastore, 1) := by decide +kernel
theorem d12_76 : decode prog_13_method_4_code 76 = .ok (.aload_n 0, 1) := by decide +kernel
theorem d12_77 : decode prog_13_method_4_code 77 = .ok (.getfield 40, 3) := by decide +kernel
theorem d12_80 : decode prog_13_method_4_code 80 = .ok (.aload_n 0, 1) := by decide +kernel
theorem d12_81 : decode prog_13_method_4_code 81 = .ok (.aload_n 1, 1) := by decide +kernel
theorem d12_82 : decode prog_13_method_4_code 82 = .ok (.invokevirtual 58, 3) := by decide +kernel
theorem d12_85 : decode prog_13_method_4_code 85 = .ok (.invokevirtual 75, 3) := by decide +kernel
theorem d12_88 : decode prog_13_method_4_code 88 = .ok (.iload_n 2, 1) := by decide +kernel
theorem d12_89 : decode prog_13_method_4_code 89 = .ok (.iastore, 1) := by decide +kernel
theorem d12_90 : decode prog_13_method_4_code 90 = .ok (.aload_n 0, 1) := by decide +kernel
theorem d12_91 : decode prog_13_method_4_code 91 = .ok (.getfield 29, 3) := by decide +kernel
theorem d12_94 : decode prog_13_method_4_code 94 = .ok (.iload_n 2, 1) := by decide +kernel
theorem d12_95 : decode prog_13_method_4_code 95 = .ok (.dup2, 1) := by decide +kernel
theorem d12_96 : decode prog_13_method_4_code 96 = .ok (.iaload, 1) := by decide +kernel
theorem d12_97 : decode prog_13_method_4_code 97 = .ok (.iconst 1, 1) := by decide +kernel
theorem d12_98 : decode prog_13_method_4_code 98 = .ok (.iadd, 1) := by decide +kernel
theorem d12_99 : decode prog_13_method_4_code 99 = .ok (.iastore, 1) := by decide +kernel
theorem d12_100 : decode prog_13_method_4_code 100 = .ok (.iload_n 2, 1) := by decide +kernel
theorem d12_101 : decode prog_13_method_4_code 101 = .ok (.ireturn, 1) := by decide +kernel
theorem ef_hn (m : MethodId) (r0 : Addr) (r1 : Addr) : entryFrame m #[(.ref r0), (.ref r1)] 3 = mkF m 0 #[.val (.ref r0), .val (.ref r1), .unset] [] := by (first | (simp [entryFrame, mkF, argsToLocals, Value.category]; done) | rfl)
def Qhn (Z : State) (r0 : Addr) (r1 : Addr) (y1 : Addr) (y2 : Addr) (yo : Addr) (yh : Addr) (yf : Addr) (ys : Addr) (g1 : Nat → Int64) (g2 : Nat → Int64) (oc : Nat → Int64) (hd : Nat → Int32) (fr : Nat → Int32) (f : Nat → Int32) (k1 : Int64) (k2 : Int64) (u : Int32) (t : Int32) (n : Nat) (i : Int32) (h0 : Heap) (n0 : Nat) (v : Option Value) (h : Heap) (L : List Loc) : Prop := v = some (.int u) ∧ Fr n0 L ∧ Keep h0 h [r0, y1, y2, yo, ys, yh] ∧ Exa Z h r0 "com/example/upper_falls/upperfalls/HeldKeys" ∧ Fld Z h r0 "com/example/upper_falls/upperfalls/HeldKeys" "hash1" "[J" (.ref y1) ∧ Fld Z h r0 "com/example/upper_falls/upperfalls/HeldKeys" "hash2" "[J" (.ref y2) ∧ Fld Z h r0 "com/example/upper_falls/upperfalls/HeldKeys" "occurrences" "[J" (.ref yo) ∧ Fld Z h r0 "com/example/upper_falls/upperfalls/HeldKeys" "holders" "[I" (.ref yh) ∧ Fld Z h r0 "com/example/upper_falls/upperfalls/HeldKeys" "free" "[I" (.ref yf) ∧ Fld Z h r0 "com/example/upper_falls/upperfalls/HeldKeys" "slots" "[I" (.ref ys) ∧ Fld Z h r0 "com/example/upper_falls/upperfalls/HeldKeys" "limit" "I" (.int (16 : Int32)) ∧ Fld Z h r0 "com/example/upper_falls/upperfalls/HeldKeys" "used" "I" (.int (u + (1 : Int32))) ∧ Fld Z h r0 "com/example/upper_falls/upperfalls/HeldKeys" "freeCount" "I" (.int (0 : Int32)) ∧ own_AJ Z h y1 .long 16 (own_up g1 (u.toNatClampNeg) k1) ∧ own_AJ Z h y2 .long 16 (own_up g2 (u.toNatClampNeg) k2) ∧ own_AJ Z h yo .long 16 (own_up oc (u.toNatClampNeg) (0 : Int64)) ∧ own_AI Z h ys .int 32 (own_up f (i.toNatClampNeg) u) ∧ own_AI Z h yh .int 16 (own_up hd (u.toNatClampNeg) ((hd u.toNatClampNeg) + (1 : Int32)))
set_option maxRecDepth 65536 in
set_option maxHeartbeats 40000000 in
theorem rmhn (l : Launch) (Z : State) (a0 : Array Value) (hw : ∀ d ∈ tables_1, d.before a0 Z = true) (ws : List Jvm.Cond) (r0 : Addr) (r1 : Addr) (y1 : Addr) (y2 : Addr) (yo : Addr) (yh : Addr) (yf : Addr) (ys : Addr) (g1 : Nat → Int64) (g2 : Nat → Int64) (oc : Nat → Int64) (hd : Nat → Int32) (fr : Nat → Int32) (f : Nat → Int32) (k1 : Int64) (k2 : Int64) (u : Int32) (t : Int32) (n : Nat) (i : Int32) (h0 : Heap) (n0 : Nat) (Z0 : n0 ≤ h0.size) (E_r0 : Exa Z h0 r0 "com/example/upper_falls/upperfalls/HeldKeys") (F_hash1 : Fld Z h0 r0 "com/example/upper_falls/upperfalls/HeldKeys" "hash1" "[J" (.ref y1)) (F_hash2 : Fld Z h0 r0 "com/example/upper_falls/upperfalls/HeldKeys" "hash2" "[J" (.ref y2)) (F_occurrences : Fld Z h0 r0 "com/example/upper_falls/upperfalls/HeldKeys" "occurrences" "[J" (.ref yo)) (F_holders : Fld Z h0 r0 "com/example/upper_falls/upperfalls/HeldKeys" "holders" "[I" (.ref yh)) (F_free : Fld Z h0 r0 "com/example/upper_falls/upperfalls/HeldKeys" "free" "[I" (.ref yf)) (F_slots : Fld Z h0 r0 "com/example/upper_falls/upperfalls/HeldKeys" "slots" "[I" (.ref ys)) (F_limit : Fld Z h0 r0 "com/example/upper_falls/upperfalls/HeldKeys" "limit" "I" (.int (16 : Int32))) (F_used : Fld Z h0 r0 "com/example/upper_falls/upperfalls/HeldKeys" "used" "I" (.int u)) (F_freeCount : Fld Z h0 r0 "com/example/upper_falls/upperfalls/HeldKeys" "freeCount" "I" (.int (0 : Int32))) (A_y1 : own_AJ Z h0 y1 .long 16 g1) (A_y2 : own_AJ Z h0 y2 .long 16 g2) (A_yo : own_AJ Z h0 yo .long 16 oc) (A_yh : own_AI Z h0 yh .int 16 hd) (A_yf : own_AI Z h0 yf .int 16 fr) (A_ys : own_AI Z h0 ys .int 32 f) (E_r1 : Exa Z h0 r1 "com/example/upper_falls/upperfalls/KeyHash") (F_h1 : Fld Z h0 r1 "com/example/upper_falls/upperfalls/KeyHash" "h1" "J" (.long k1)) (F_h2 : Fld Z h0 r1 "com/example/upper_falls/upperfalls/KeyHash" "h2" "J" (.long k2)) (hV : own_V n f) (hM : own_M n g1 g2 t k1 k2) (hn3 : n ≤ 3) (hy : own_fnd f t 8 ((k1.toInt32) &&& (31 : Int32)) = some (-1 : Int32)) (hu : (¬ u < 0 ∧ u.toNatClampNeg < 16)) (he : own_emp f 8 ((k1.toInt32) &&& (31 : Int32)) = some i) (hne_y1_r0 : y1 ≠ r0) (hne_y2_r0 : y2 ≠ r0) (hne_yo_r0 : yo ≠ r0) (hne_yh_r0 : yh ≠ r0) (hne_yf_r0 : yf ≠ r0) (hne_ys_r0 : ys ≠ r0) (hne_r1_r0 : r1 ≠ r0) (g_r0 : n0 ≤ r0) (hne_r0_y1 : r0 ≠ y1) (hne_y2_y1 : y2 ≠ y1) (hne_yo_y1 : yo ≠ y1) (hne_yh_y1 : yh ≠ y1) (hne_yf_y1 : yf ≠ y1) (hne_ys_y1 : ys ≠ y1) (hne_r1_y1 : r1 ≠ y1) (g_y1 : n0 ≤ y1) (hne_r0_y2 : r0 ≠ y2) (hne_yo_y2 : yo ≠ y2) (hne_yh_y2 : yh ≠ y2) (hne_yf_y2 : yf ≠ y2) (hne_ys_y2 : ys ≠ y2) (hne_r1_y2 : r1 ≠ y2) (hne_y1_y2 : y1 ≠ y2) (g_y2 : n0 ≤ y2) (hne_r0_yo : r0 ≠ yo) (hne_yh_yo : yh ≠ yo) (hne_yf_yo : yf ≠ yo) (hne_ys_yo : ys ≠ yo) (hne_r1_yo : r1 ≠ yo) (hne_y1_yo : y1 ≠ yo) (hne_y2_yo : y2 ≠ yo) (g_yo : n0 ≤ yo) (hne_r0_ys : r0 ≠ ys) (hne_yh_ys : yh ≠ ys) (hne_yf_ys : yf ≠ ys) (hne_r1_ys : r1 ≠ ys) (hne_y1_ys : y1 ≠ ys) (hne_y2_ys : y2 ≠ ys) (hne_yo_ys : yo ≠ ys) (g_ys : n0 ≤ ys) (hne_r0_yh : r0 ≠ yh) (hne_yf_yh : yf ≠ yh) (hne_r1_yh : r1 ≠ yh) (hne_y1_yh : y1 ≠ yh) (hne_y2_yh : y2 ≠ yh) (hne_yo_yh : yo ≠ yh) (hne_ys_yh : ys ≠ yh) (g_yh : n0 ≤ yh) :
    MetFree l (⟨"com/example/upper_falls/upperfalls/HeldKeys", "hold", "(Lcom/example/upper_falls/upperfalls/KeyHash;)I"⟩ : MethodName) (head1 (Jvm.Cond.code (⟨"com/example/upper_falls/upperfalls/HeldKeys", "hold", "(Lcom/example/upper_falls/upperfalls/KeyHash;)I"⟩ : MethodName) prog_13_method_4_code 3 (some .int) :: ws) ({ frames := 2, cells := 0, slots := 0, locals := 57 } : Room)) (fun a U => a = #[(.ref r0), (.ref r1)] ∧ Z.Warmed39 U.vm ∧ U.heap = h0) (fun _ _ _ _ _ => True) (fun _ U o U' => ∃ v L, o = .returned v ∧ Qhn Z r0 r1 y1 y2 yo yh yf ys g1 g2 oc hd fr f k1 k2 u t n i h0 n0 v U'.heap L ∧ FrameEnd U o U' L ({ frames := 2, cells := 0, slots := 0, locals := 57 } : Room).cells ({ frames := 2, cells := 0, slots := 0, locals := 57 } : Room).slots) := by
  refine MetFree.of_bodySF (plainFor_of_name pn9) hisR ?_
  intro p e s m args below meth c s₁ Bd hml0 hP hK
  obtain ⟨rfl, hZ, hh⟩ := hP
  have hx := Bd.exec
  have hby := Bd.bytes
  have hml : c.maxLocals = 3 := hml0
  have hown : s.vm.findClass "com/example/upper_falls/upperfalls/HeldKeys" = some m.cls := findClass_of_methodNamed Bd.named
  have hnm := (name_of_methodNamed Bd.named Bd.method).1
  have X0 : Stand p l e ({ frames := 2, cells := 0, slots := 0, locals := 57 } : Room) s m #[(.ref r0), (.ref r1)] below meth c s₁ [] 0 0 := Stand.of_body Bd
  have e0 : s₁.heap = h0 := by rw [← hh, Bd.state]; rfl
  have N0 := Fr.nil n0
  have K0 : Keep h0 h0 [r0, y1, y2, yo, ys, yh] := Keep.refl h0 _
  show own_Go p e below s (Qhn Z r0 r1 y1 y2 yo yh yf ys g1 g2 oc hd fr f k1 k2 u t n i h0 n0) ({ frames := 2, cells := 0, slots := 0, locals := 57 } : Room).cells ({ frames := 2, cells := 0, slots := 0, locals := 57 } : Room).slots (s₁.setTop (entryFrame m #[(.ref r0), (.ref r1)] 3))
  refine own_go (fun t k => castTop (ef_hn m r0 r1) k) ?_
  obtain ⟨cq101, kq101, q101a, q101b, q101c⟩ := isOf hZ e0 E_r0
  obtain ⟨_, _, ⟨T101, L101, k101, n101⟩, -, X101, ⟨Lc101, hQ101, l101, y101, z101⟩, st101⟩ := X0.virtualBack hx (y := (⟨"com/example/upper_falls/upperfalls/HeldKeys", "find", "(Lcom/example/upper_falls/upperfalls/KeyHash;)I"⟩ : MethodName)) (z := (⟨"com/example/upper_falls/upperfalls/HeldKeys", "find", "(Lcom/example/upper_falls/upperfalls/KeyHash;)I"⟩ : MethodName)) hown (mvT hZ (own_wd hw 76 rfl)) (mvT hZ (own_wd hw 77 rfl)) (notFace_of_selects (args := #[]) (mvT hZ (own_wd hw 79 rfl))) (mvT hZ (own_wd hw 79 rfl)) (mvT hZ (own_wd hw 78 rfl)) (by decide) (backOf (W := 0) (rmfd l Z a0 hw [] r0 r1 ys y1 y2 f g1 g2 k1 k2 t n (-1 : Int32) h0 n0 Z0 E_r0 F_slots F_hash1 F_hash2 A_ys A_y1 A_y2 E_r1 F_h1 F_h2 (hV : own_V n f) (hM : own_M n g1 g2 t k1 k2) (hn3 : n ≤ 3) (hy : own_fnd f t 8 ((k1.toInt32) &&& (31 : Int32)) = some (-1 : Int32))) hZ (own_wd hw 80 rfl) (own_wd hw 27 rfl) (by decide) (by decide)) q101a q101c (g := (mkF m 2 #[.val (.ref r0), .val (.ref r1), .unset] [(.ref r1), (.ref r0)])) rfl (by rw [hml]; rfl) (Steps.refl _) (argsL := [(.ref r1)]) (rest := []) (lenOf pd13 rfl) rfl (by show 2 * 0 + _ ≤ _; exact Nat.le_of_eq rfl) (hb hby d12_2) (fun _ _ => ⟨rfl, e0, (by decide : 0 + 0 ≤ _), (by decide : 0 + 0 ≤ _)⟩)
  dsimp only [Pt.U, Pt.locs, Pt.cells, Pt.slots] at X101 l101 y101 z101 st101 hQ101
  subst l101 y101 z101
  obtain ⟨rfl, N101q, e101⟩ := hQ101
  have N101 := Fr.app N0 N101q
  obtain ⟨T102, X102, e102, st102⟩ := getF X101 hx hZ hown (host := "") (Or.inl (own_wd hw 90 rfl)) Via.refl e101 F_freeCount (g := (mkF m 12 #[.val (.ref r0), .val (.ref r1), .val (.int (-1 : Int32))] [(.ref r0)])) rfl rfl (hb hby d12_12)
  obtain ⟨T103, X103, e103, st103⟩ := getF X102 hx hZ hown (host := "") (Or.inl (own_wd hw 92 rfl)) Via.refl e102 F_used (g := (mkF m 39 #[.val (.ref r0), .val (.ref r1), .val (.int (-1 : Int32))] [(.ref r0), (.ref r0)])) rfl rfl (hb hby d12_39)
  obtain ⟨v1, hv1⟩ : ∃ z : Int32, z = (u + (1 : Int32)) := ⟨_, rfl⟩
  obtain ⟨T104, h104, X104, e104, W104, st104⟩ := putF X103 hx hZ hown (host := "") (Or.inl (own_wd hw 92 rfl)) Via.refl e103 F_used E_r0 (Or.inl (own_wd hw 93 rfl)) (own_wd hw 26 rfl) (ty := .int) (by decide) rfl rfl (g := (mkF m 45 #[.val (.ref r0), .val (.ref r1), .val (.int (-1 : Int32))] [(.int v1), (.ref r0), (.int u)])) rfl rfl (hb hby d12_45)
  have F105 := E_r0.wr W104
  have F106 := F_hash1.other W104 (Or.inr (slot_ne (Or.inl (own_wd hw 40 rfl)) (Or.inl (own_wd hw 93 rfl)) (by decide) (t := (.array .long)) (t' := .int) (by decide) (by decide)))
  have F107 := F_hash2.other W104 (Or.inr (slot_ne (Or.inl (own_wd hw 42 rfl)) (Or.inl (own_wd hw 93 rfl)) (by decide) (t := (.array .long)) (t' := .int) (by decide) (by decide)))
  have F108 := F_occurrences.other W104 (Or.inr (slot_ne (Or.inl (own_wd hw 44 rfl)) (Or.inl (own_wd hw 93 rfl)) (by decide) (t := (.array .long)) (t' := .int) (by decide) (by decide)))
  have F109 := F_holders.other W104 (Or.inr (slot_ne (Or.inl (own_wd hw 47 rfl)) (Or.inl (own_wd hw 93 rfl)) (by decide) (t := (.array .int)) (t' := .int) (by decide) (by decide)))
  have F110 := F_free.other W104 (Or.inr (slot_ne (Or.inl (own_wd hw 49 rfl)) (Or.inl (own_wd hw 93 rfl)) (by decide) (t := (.array .int)) (t' := .int) (by decide) (by decide)))
  have F111 := F_slots.other W104 (Or.inr (slot_ne (Or.inl (own_wd hw 70 rfl)) (Or.inl (own_wd hw 93 rfl)) (by decide) (t := (.array .int)) (t' := .int) (by decide) (by decide)))
  have F112 := F_limit.other W104 (Or.inr (slot_ne (Or.inr (own_wd hw 33 rfl)) (Or.inl (own_wd hw 93 rfl)) (by decide) (t := .int) (t' := .int) (by decide) (by decide)))
  have F113 := F_used.same W104
  have F114 := F_freeCount.other W104 (Or.inr (slot_ne (Or.inl (own_wd hw 91 rfl)) (Or.inl (own_wd hw 93 rfl)) (by decide) (t := .int) (t' := .int) (by decide) (by decide)))
  have F115 := A_y1.other W104 hne_y1_r0
  have F116 := A_y2.other W104 hne_y2_r0
  have F117 := A_yo.other W104 hne_yo_r0
  have F118 := A_yh.other W104 hne_yh_r0
  have F119 := A_yf.other W104 hne_yf_r0
  have F120 := A_ys.other W104 hne_ys_r0
  have F121 := E_r1.wr W104
  have F122 := F_h1.other W104 (Or.inl hne_r1_r0)
  have F123 := F_h2.other W104 (Or.inl hne_r1_r0)
  have Z124 : n0 ≤ h104.size := Nat.le_trans Z0 (Keep.of_wr W104).1
  have K125 : Keep h0 h104 [r0, y1, y2, yo, ys, yh] := K0.wr W104 (Or.inl (List.mem_of_getElem? (i := 0) rfl))
  have N126 := Fr.snoc X104 N101 g_r0
  obtain ⟨T127, X127, e127, st127⟩ := getF X104 hx hZ hown (host := "") (Or.inl (own_wd hw 39 rfl)) Via.refl e104 F106 (g := (mkF m 50 #[.val (.ref r0), .val (.ref r1), .val (.int u)] [(.ref r0)])) rfl rfl (hb hby d12_50)
  obtain ⟨cq128, kq128, q128a, q128b, q128c⟩ := isOf hZ e127 F121
  obtain ⟨_, _, ⟨T128, L128, k128, n128⟩, -, X128, ⟨Lc128, hQ128, l128, y128, z128⟩, st128⟩ := X127.virtualBack hx (y := (⟨"com/example/upper_falls/upperfalls/KeyHash", "h1", "()J"⟩ : MethodName)) (z := (⟨"com/example/upper_falls/upperfalls/KeyHash", "h1", "()J"⟩ : MethodName)) hown (mvT hZ (own_wd hw 81 rfl)) (mvT hZ (own_wd hw 82 rfl)) (notFace_of_selects (args := #[]) (mvT hZ (own_wd hw 84 rfl))) (mvT hZ (own_wd hw 84 rfl)) (mvT hZ (own_wd hw 83 rfl)) (by decide) (backOf (W := 2) (rmh1 l Z a0 hw [] r1 k1 h104 n0 Z124 F122) hZ (own_wd hw 85 rfl) (own_wd hw 2 rfl) (by decide) (by decide)) q128a q128c (g := (mkF m 55 #[.val (.ref r0), .val (.ref r1), .val (.int u)] [(.ref r1), (.int u), (.ref y1)])) rfl (by rw [hml]; rfl) (Steps.refl _) (argsL := []) (rest := [(.int u), (.ref y1)]) (lenOf pd11 rfl) rfl (by show 2 * 0 + _ ≤ _; exact Nat.le_of_eq rfl) (hb hby d12_55) (fun _ _ => ⟨rfl, e127, (by decide : 0 + 0 ≤ _), (by decide : 0 + 0 ≤ _)⟩)
  dsimp only [Pt.U, Pt.locs, Pt.cells, Pt.slots] at X128 l128 y128 z128 st128 hQ128
  subst l128 y128 z128
  obtain ⟨rfl, N128q, e128⟩ := hQ128
  have N128 := Fr.app N126 N128q
  have hin58_129 : ¬ u < 0 ∧ u.toNatClampNeg < 16 := hu
  obtain ⟨T130, h130, X130, e130, W130, B130, st130⟩ := own_stJ X128 hx hZ e128 F115 (j := u) (x := k1) hin58_129 (g := (mkF m 58 #[.val (.ref r0), .val (.ref r1), .val (.int u)] [(.long k1), (.int u), (.ref y1)])) rfl rfl (hb hby d12_58)
  obtain ⟨v2, hv2⟩ : ∃ z : Nat → Int64, z = (own_up g1 (u.toNatClampNeg) k1) := ⟨_, rfl⟩
  have B130n : own_AJ Z h130 y1 .long 16 v2 := by rw [hv2]; exact B130
  have F131 := F105.wr W130
  have F132 := F106.other W130 (Or.inl hne_r0_y1)
  have F133 := F107.other W130 (Or.inl hne_r0_y1)
  have F134 := F108.other W130 (Or.inl hne_r0_y1)
  have F135 := F109.other W130 (Or.inl hne_r0_y1)
  have F136 := F110.other W130 (Or.inl hne_r0_y1)
  have F137 := F111.other W130 (Or.inl hne_r0_y1)
  have F138 := F112.other W130 (Or.inl hne_r0_y1)
  have F139 := F113.other W130 (Or.inl hne_r0_y1)
  have F140 := F114.other W130 (Or.inl hne_r0_y1)
  have F141 := F116.other W130 hne_y2_y1
  have F142 := F117.other W130 hne_yo_y1
  have F143 := F118.other W130 hne_yh_y1
  have F144 := F119.other W130 hne_yf_y1
  have F145 := F120.other W130 hne_ys_y1
  have F146 := F121.wr W130
  have F147 := F122.other W130 (Or.inl hne_r1_y1)
  have F148 := F123.other W130 (Or.inl hne_r1_y1)
  have Z149 : n0 ≤ h130.size := Nat.le_trans Z124 (Keep.of_wr W130).1
  have K150 : Keep h0 h130 [r0, y1, y2, yo, ys, yh] := K125.wr W130 (Or.inl (List.mem_of_getElem? (i := 1) rfl))
  have N151 := Fr.snoc X130 N128 g_y1
  obtain ⟨T152, X152, e152, st152⟩ := getF X130 hx hZ hown (host := "") (Or.inl (own_wd hw 41 rfl)) Via.refl e130 F133 (g := (mkF m 60 #[.val (.ref r0), .val (.ref r1), .val (.int u)] [(.ref r0)])) rfl rfl (hb hby d12_60)
  obtain ⟨cq153, kq153, q153a, q153b, q153c⟩ := isOf hZ e152 F146
  obtain ⟨_, _, ⟨T153, L153, k153, n153⟩, -, X153, ⟨Lc153, hQ153, l153, y153, z153⟩, st153⟩ := X152.virtualBack hx (y := (⟨"com/example/upper_falls/upperfalls/KeyHash", "h2", "()J"⟩ : MethodName)) (z := (⟨"com/example/upper_falls/upperfalls/KeyHash", "h2", "()J"⟩ : MethodName)) hown (mvT hZ (own_wd hw 94 rfl)) (mvT hZ (own_wd hw 95 rfl)) (notFace_of_selects (args := #[]) (mvT hZ (own_wd hw 97 rfl))) (mvT hZ (own_wd hw 97 rfl)) (mvT hZ (own_wd hw 96 rfl)) (by decide) (backOf (W := 2) (rmh2 l Z a0 hw [] r1 k2 h130 n0 Z149 F148) hZ (own_wd hw 98 rfl) (own_wd hw 2 rfl) (by decide) (by decide)) q153a q153c (g := (mkF m 65 #[.val (.ref r0), .val (.ref r1), .val (.int u)] [(.ref r1), (.int u), (.ref y2)])) rfl (by rw [hml]; rfl) (Steps.refl _) (argsL := []) (rest := [(.int u), (.ref y2)]) (lenOf pd11 rfl) rfl (by show 2 * 0 + _ ≤ _; exact Nat.le_of_eq rfl) (hb hby d12_65) (fun _ _ => ⟨rfl, e152, (by decide : 0 + 0 ≤ _), (by decide : 0 + 0 ≤ _)⟩)
  dsimp only [Pt.U, Pt.locs, Pt.cells, Pt.slots] at X153 l153 y153 z153 st153 hQ153
  subst l153 y153 z153
  obtain ⟨rfl, N153q, e153⟩ := hQ153
  have N153 := Fr.app N151 N153q
  have hin68_154 : ¬ u < 0 ∧ u.toNatClampNeg < 16 := hu
  obtain ⟨T155, h155, X155, e155, W155, B155, st155⟩ := own_stJ X153 hx hZ e153 F141 (j := u) (x := k2) hin68_154 (g := (mkF m 68 #[.val (.ref r0), .val (.ref r1), .val (.int u)] [(.long k2), (.int u), (.ref y2)])) rfl rfl (hb hby d12_68)
  obtain ⟨v3, hv3⟩ : ∃ z : Nat → Int64, z = (own_up g2 (u.toNatClampNeg) k2) := ⟨_, rfl⟩
  have B155n : own_AJ Z h155 y2 .long 16 v3 := by rw [hv3]; exact B155
  have F156 := F131.wr W155
  have F157 := F132.other W155 (Or.inl hne_r0_y2)
  have F158 := F133.other W155 (Or.inl hne_r0_y2)
  have F159 := F134.other W155 (Or.inl hne_r0_y2)
  have F160 := F135.other W155 (Or.inl hne_r0_y2)
  have F161 := F136.other W155 (Or.inl hne_r0_y2)
  have F162 := F137.other W155 (Or.inl hne_r0_y2)
  have F163 := F138.other W155 (Or.inl hne_r0_y2)
  have F164 := F139.other W155 (Or.inl hne_r0_y2)
  have F165 := F140.other W155 (Or.inl hne_r0_y2)
  have F166 := F142.other W155 hne_yo_y2
  have F167 := F143.other W155 hne_yh_y2
  have F168 := F144.other W155 hne_yf_y2
  have F169 := F145.other W155 hne_ys_y2
  have F170 := F146.wr W155
  have F171 := F147.other W155 (Or.inl hne_r1_y2)
  have F172 := F148.other W155 (Or.inl hne_r1_y2)
  have F173 := B130n.other W155 hne_y1_y2
  have Z174 : n0 ≤ h155.size := Nat.le_trans Z149 (Keep.of_wr W155).1
  have K175 : Keep h0 h155 [r0, y1, y2, yo, ys, yh] := K150.wr W155 (Or.inl (List.mem_of_getElem? (i := 2) rfl))
  have N176 := Fr.snoc X155 N153 g_y2
  obtain ⟨T177, X177, e177, st177⟩ := getF X155 hx hZ hown (host := "") (Or.inl (own_wd hw 43 rfl)) Via.refl e155 F159 (g := (mkF m 70 #[.val (.ref r0), .val (.ref r1), .val (.int u)] [(.ref r0)])) rfl rfl (hb hby d12_70)
  have hin75_178 : ¬ u < 0 ∧ u.toNatClampNeg < 16 := hu
  obtain ⟨T179, h179, X179, e179, W179, B179, st179⟩ := own_stJ X177 hx hZ e177 F166 (j := u) (x := (0 : Int64)) hin75_178 (g := (mkF m 75 #[.val (.ref r0), .val (.ref r1), .val (.int u)] [(.long (0 : Int64)), (.int u), (.ref yo)])) rfl rfl (hb hby d12_75)
  obtain ⟨v4, hv4⟩ : ∃ z : Nat → Int64, z = (own_up oc (u.toNatClampNeg) (0 : Int64)) := ⟨_, rfl⟩
  have B179n : own_AJ Z h179 yo .long 16 v4 := by rw [hv4]; exact B179
  have F180 := F156.wr W179
  have F181 := F157.other W179 (Or.inl hne_r0_yo)
  have F182 := F158.other W179 (Or.inl hne_r0_yo)
  have F183 := F159.other W179 (Or.inl hne_r0_yo)
  have F184 := F160.other W179 (Or.inl hne_r0_yo)
  have F185 := F161.other W179 (Or.inl hne_r0_yo)
  have F186 := F162.other W179 (Or.inl hne_r0_yo)
  have F187 := F163.other W179 (Or.inl hne_r0_yo)
  have F188 := F164.other W179 (Or.inl hne_r0_yo)
  have F189 := F165.other W179 (Or.inl hne_r0_yo)
  have F190 := F167.other W179 hne_yh_yo
  have F191 := F168.other W179 hne_yf_yo
  have F192 := F169.other W179 hne_ys_yo
  have F193 := F170.wr W179
  have F194 := F171.other W179 (Or.inl hne_r1_yo)
  have F195 := F172.other W179 (Or.inl hne_r1_yo)
  have F196 := F173.other W179 hne_y1_yo
  have F197 := B155n.other W179 hne_y2_yo
  have Z198 : n0 ≤ h179.size := Nat.le_trans Z174 (Keep.of_wr W179).1
  have K199 : Keep h0 h179 [r0, y1, y2, yo, ys, yh] := K175.wr W179 (Or.inl (List.mem_of_getElem? (i := 3) rfl))
  have N200 := Fr.snoc X179 N176 g_yo
  obtain ⟨T201, X201, e201, st201⟩ := getF X179 hx hZ hown (host := "") (Or.inl (own_wd hw 69 rfl)) Via.refl e179 F186 (g := (mkF m 77 #[.val (.ref r0), .val (.ref r1), .val (.int u)] [(.ref r0)])) rfl rfl (hb hby d12_77)
  obtain ⟨cq202, kq202, q202a, q202b, q202c⟩ := isOf hZ e201 F193
  obtain ⟨_, _, ⟨T202, L202, k202, n202⟩, -, X202, ⟨Lc202, hQ202, l202, y202, z202⟩, st202⟩ := X201.virtualBack hx (y := (⟨"com/example/upper_falls/upperfalls/KeyHash", "h1", "()J"⟩ : MethodName)) (z := (⟨"com/example/upper_falls/upperfalls/KeyHash", "h1", "()J"⟩ : MethodName)) hown (mvT hZ (own_wd hw 81 rfl)) (mvT hZ (own_wd hw 82 rfl)) (notFace_of_selects (args := #[]) (mvT hZ (own_wd hw 84 rfl))) (mvT hZ (own_wd hw 84 rfl)) (mvT hZ (own_wd hw 83 rfl)) (by decide) (backOf (W := 2) (rmh1 l Z a0 hw [] r1 k1 h179 n0 Z198 F194) hZ (own_wd hw 85 rfl) (own_wd hw 2 rfl) (by decide) (by decide)) q202a q202c (g := (mkF m 82 #[.val (.ref r0), .val (.ref r1), .val (.int u)] [(.ref r1), (.ref r0), (.ref ys)])) rfl (by rw [hml]; rfl) (Steps.refl _) (argsL := []) (rest := [(.ref r0), (.ref ys)]) (lenOf pd11 rfl) rfl (by show 2 * 0 + _ ≤ _; exact Nat.le_of_eq rfl) (hb hby d12_82) (fun _ _ => ⟨rfl, e201, (by decide : 0 + 0 ≤ _), (by decide : 0 + 0 ≤ _)⟩)
  dsimp only [Pt.U, Pt.locs, Pt.cells, Pt.slots] at X202 l202 y202 z202 st202 hQ202
  subst l202 y202 z202
  obtain ⟨rfl, N202q, e202⟩ := hQ202
  have N202 := Fr.app N200 N202q
  obtain ⟨cq203, q203, q203'⟩ := F180.cell
  obtain ⟨_, _, ⟨T203, L203, k203, n203⟩, -, X203, ⟨Lc203, hQ203, l203, y203, z203⟩, st203⟩ := X202.privateBack hx (y := (⟨"com/example/upper_falls/upperfalls/HeldKeys", "emptySlot", "(J)I"⟩ : MethodName)) hown (mvT hZ (own_wd hw 99 rfl)) (mvT hZ (own_wd hw 100 rfl)) (own_selPriv (mvT hZ (own_wd hw 26 rfl)) (mvT hZ (own_wd hw 100 rfl)) (Cond.privateMethod_at (mvP hZ (own_wd hw 101 rfl) (args := #[]))) (by decide)) (Cond.privateMethod_at (mvP hZ (own_wd hw 101 rfl) (args := #[]))) (mvT hZ (own_wd hw 102 rfl)) (by decide) (backOf (W := 1) (rmes l Z a0 hw [] r0 k1 ys f i h179 n0 Z198 F180 F186 F192 (he : own_emp f 8 ((k1.toInt32) &&& (31 : Int32)) = some i)) hZ (own_wd hw 102 rfl) (own_wd hw 27 rfl) (by decide) (by decide)) (g := (mkF m 85 #[.val (.ref r0), .val (.ref r1), .val (.int u)] [(.long k1), (.ref r0), (.ref ys)])) rfl (by rw [hml]; rfl) (Steps.refl _) (a := r0) (by rw [e202]; exact q203) q203' (argsL := [(.long k1)]) (rest := [(.ref ys)]) (lenOf pd12 rfl) rfl (by show 2 * 0 + _ ≤ _; exact Nat.le_of_eq rfl) (hb hby d12_85) (fun _ _ => ⟨rfl, e202, (by decide : 0 + 0 ≤ _), (by decide : 0 + 0 ≤ _)⟩)
  dsimp only [Pt.U, Pt.locs, Pt.cells, Pt.slots] at X203 l203 y203 z203 st203 hQ203
  subst l203 y203 z203
  obtain ⟨rfl, N203q, e203⟩ := hQ203
  have N203 := Fr.app N202 N203q
  have hin89_204 : ¬ i < 0 ∧ i.toNatClampNeg < 32 := own_eB he (own_and31 _)
  obtain ⟨T205, h205, X205, e205, W205, B205, st205⟩ := own_stI X203 hx hZ e203 F192 (j := i) (x := u) hin89_204 (g := (mkF m 89 #[.val (.ref r0), .val (.ref r1), .val (.int u)] [(.int u), (.int i), (.ref ys)])) rfl rfl (hb hby d12_89)
  obtain ⟨v5, hv5⟩ : ∃ z : Nat → Int32, z = (own_up f (i.toNatClampNeg) u) := ⟨_, rfl⟩
  have B205n : own_AI Z h205 ys .int 32 v5 := by rw [hv5]; exact B205
  have F206 := F180.wr W205
  have F207 := F181.other W205 (Or.inl hne_r0_ys)
  have F208 := F182.other W205 (Or.inl hne_r0_ys)
  have F209 := F183.other W205 (Or.inl hne_r0_ys)
  have F210 := F184.other W205 (Or.inl hne_r0_ys)
  have F211 := F185.other W205 (Or.inl hne_r0_ys)
  have F212 := F186.other W205 (Or.inl hne_r0_ys)
  have F213 := F187.other W205 (Or.inl hne_r0_ys)
  have F214 := F188.other W205 (Or.inl hne_r0_ys)
  have F215 := F189.other W205 (Or.inl hne_r0_ys)
  have F216 := F190.other W205 hne_yh_ys
  have F217 := F191.other W205 hne_yf_ys
  have F218 := F193.wr W205
  have F219 := F194.other W205 (Or.inl hne_r1_ys)
  have F220 := F195.other W205 (Or.inl hne_r1_ys)
  have F221 := F196.other W205 hne_y1_ys
  have F222 := F197.other W205 hne_y2_ys
  have F223 := B179n.other W205 hne_yo_ys
  have Z224 : n0 ≤ h205.size := Nat.le_trans Z198 (Keep.of_wr W205).1
  have K225 : Keep h0 h205 [r0, y1, y2, yo, ys, yh] := K199.wr W205 (Or.inl (List.mem_of_getElem? (i := 4) rfl))
  have N226 := Fr.snoc X205 N203 g_ys
  obtain ⟨T227, X227, e227, st227⟩ := getF X205 hx hZ hown (host := "") (Or.inl (own_wd hw 46 rfl)) Via.refl e205 F210 (g := (mkF m 91 #[.val (.ref r0), .val (.ref r1), .val (.int u)] [(.ref r0)])) rfl rfl (hb hby d12_91)
  have hin96_228 : ¬ u < 0 ∧ u.toNatClampNeg < 16 := hu
  obtain ⟨v6, hv6⟩ : ∃ z : Int32, z = ((hd u.toNatClampNeg) + (1 : Int32)) := ⟨_, rfl⟩
  have hin99_229 : ¬ u < 0 ∧ u.toNatClampNeg < 16 := hu
  obtain ⟨T230, h230, X230, e230, W230, B230, st230⟩ := own_stI X227 hx hZ e227 F216 (j := u) (x := v6) hin99_229 (g := (mkF m 99 #[.val (.ref r0), .val (.ref r1), .val (.int u)] [(.int v6), (.int u), (.ref yh)])) rfl rfl (hb hby d12_99)
  obtain ⟨v7, hv7⟩ : ∃ z : Nat → Int32, z = (own_up hd (u.toNatClampNeg) v6) := ⟨_, rfl⟩
  have B230n : own_AI Z h230 yh .int 16 v7 := by rw [hv7]; exact B230
  have F231 := F206.wr W230
  have F232 := F207.other W230 (Or.inl hne_r0_yh)
  have F233 := F208.other W230 (Or.inl hne_r0_yh)
  have F234 := F209.other W230 (Or.inl hne_r0_yh)
  have F235 := F210.other W230 (Or.inl hne_r0_yh)
  have F236 := F211.other W230 (Or.inl hne_r0_yh)
  have F237 := F212.other W230 (Or.inl hne_r0_yh)
  have F238 := F213.other W230 (Or.inl hne_r0_yh)
  have F239 := F214.other W230 (Or.inl hne_r0_yh)
  have F240 := F215.other W230 (Or.inl hne_r0_yh)
  have F241 := F217.other W230 hne_yf_yh
  have F242 := F218.wr W230
  have F243 := F219.other W230 (Or.inl hne_r1_yh)
  have F244 := F220.other W230 (Or.inl hne_r1_yh)
  have F245 := F221.other W230 hne_y1_yh
  have F246 := F222.other W230 hne_y2_yh
  have F247 := F223.other W230 hne_yo_yh
  have F248 := B205n.other W230 hne_ys_yh
  have Z249 : n0 ≤ h230.size := Nat.le_trans Z224 (Keep.of_wr W230).1
  have K250 : Keep h0 h230 [r0, y1, y2, yo, ys, yh] := K225.wr W230 (Or.inl (List.mem_of_getElem? (i := 5) rfl))
  have N251 := Fr.snoc X230 N226 g_yh
  have hgo252 : ∀ t, Steps p.tables e below (T230.setTop (mkF m 101 #[.val (.ref r0), .val (.ref r1), .val (.int u)] [(.int u)])) t → Steps p.tables e below (s₁.setTop (mkF m 0 #[.val (.ref r0), .val (.ref r1), .unset] [])) t := by
    intro t kt
    show Steps p.tables e below (s₁.setTop (mkF m 0 #[.val (.ref r0), .val (.ref r1), .unset] [])) _
    refine XS.aloadN X0.here hx rfl (hb hby d12_0) rfl rfl ?_
    refine XS.aloadN X0.here hx rfl (hb hby d12_1) rfl rfl ?_
    show Steps p.tables e below (s₁.setTop (mkF m 2 #[.val (.ref r0), .val (.ref r1), .unset] [(.ref r1), (.ref r0)])) _
    refine st101.trans ?_
    show Steps p.tables e below (T101.setTop (mkF m 5 #[.val (.ref r0), .val (.ref r1), .unset] [(.int (-1 : Int32))])) _
    refine XS.istoreN X101.here hx rfl (hb hby d12_5) rfl (l' := #[.val (.ref r0), .val (.ref r1), .val (.int (-1 : Int32))]) rfl ?_
    show Steps p.tables e below (T101.setTop (mkF m 6 #[.val (.ref r0), .val (.ref r1), .val (.int (-1 : Int32))] [])) _
    refine XS.iloadN X101.here hx rfl (hb hby d12_6) rfl ?_
    refine XS.iconst X101.here hx rfl (hb hby d12_7) ?_
    refine XS.icmpNo X101.here hx rfl (hb hby d12_8) rfl (teq (by decide : (-1 : Int32) = (-1 : Int32))).2 ?_
    show Steps p.tables e below (T101.setTop (mkF m 11 #[.val (.ref r0), .val (.ref r1), .val (.int (-1 : Int32))] [])) _
    refine XS.aloadN X101.here hx rfl (hb hby d12_11) rfl rfl ?_
    show Steps p.tables e below (T101.setTop (mkF m 12 #[.val (.ref r0), .val (.ref r1), .val (.int (-1 : Int32))] [(.ref r0)])) _
    refine st102 _ ?_
    show Steps p.tables e below (T102.setTop (mkF m 15 #[.val (.ref r0), .val (.ref r1), .val (.int (-1 : Int32))] [(.int (0 : Int32))])) _
    refine XS.ifYes X102.here hx rfl (pc0 := 15) (pc' := 37) rfl (hb hby d12_15) rfl ((if0 _ _).trans (flt (by decide : ¬ ((0 : Int32) < (0 : Int32)))).2.2.2) (by decide) (by decide) ?_
    show Steps p.tables e below (T102.setTop (mkF m 37 #[.val (.ref r0), .val (.ref r1), .val (.int (-1 : Int32))] [])) _
    refine XS.aloadN X102.here hx rfl (hb hby d12_37) rfl rfl ?_
    refine XS.dup X102.here hx rfl (hb hby d12_38) rfl rfl ?_
    show Steps p.tables e below (T102.setTop (mkF m 39 #[.val (.ref r0), .val (.ref r1), .val (.int (-1 : Int32))] [(.ref r0), (.ref r0)])) _
    refine st103 _ ?_
    show Steps p.tables e below (T103.setTop (mkF m 42 #[.val (.ref r0), .val (.ref r1), .val (.int (-1 : Int32))] [(.int u), (.ref r0)])) _
    refine XS.dupX1 X103.here hx rfl (hb hby d12_42) rfl rfl rfl ?_
    show Steps p.tables e below (T103.setTop (mkF m 43 #[.val (.ref r0), .val (.ref r1), .val (.int (-1 : Int32))] [(.int u), (.ref r0), (.int u)])) _
    refine XS.iconst X103.here hx rfl (hb hby d12_43) ?_
    refine XS.iadd X103.here hx rfl (hb hby d12_44) rfl ?_
    show Steps p.tables e below (T103.setTop (mkF m 45 #[.val (.ref r0), .val (.ref r1), .val (.int (-1 : Int32))] [(.int (u + (1 : Int32))), (.ref r0), (.int u)])) _
    rw [← hv1]
    refine st104 _ ?_
    show Steps p.tables e below (T104.setTop (mkF m 48 #[.val (.ref r0), .val (.ref r1), .val (.int (-1 : Int32))] [(.int u)])) _
    refine XS.istoreN X104.here hx rfl (hb hby d12_48) rfl (l' := #[.val (.ref r0), .val (.ref r1), .val (.int u)]) rfl ?_
    show Steps p.tables e below (T104.setTop (mkF m 49 #[.val (.ref r0), .val (.ref r1), .val (.int u)] [])) _
    refine XS.aloadN X104.here hx rfl (hb hby d12_49) rfl rfl ?_
    show Steps p.tables e below (T104.setTop (mkF m 50 #[.val (.ref r0), .val (.ref r1), .val (.int u)] [(.ref r0)])) _
    refine st127 _ ?_
    show Steps p.tables e below (T127.setTop (mkF m 53 #[.val (.ref r0), .val (.ref r1), .val (.int u)] [(.ref y1)])) _
    refine XS.iloadN X127.here hx rfl (hb hby d12_53) rfl ?_
    refine XS.aloadN X127.here hx rfl (hb hby d12_54) rfl rfl ?_
    show Steps p.tables e below (T127.setTop (mkF m 55 #[.val (.ref r0), .val (.ref r1), .val (.int u)] [(.ref r1), (.int u), (.ref y1)])) _
    refine st128.trans ?_
    show Steps p.tables e below (T128.setTop (mkF m 58 #[.val (.ref r0), .val (.ref r1), .val (.int u)] [(.long k1), (.int u), (.ref y1)])) _
    refine st130 _ ?_
    show Steps p.tables e below (T130.setTop (mkF m 59 #[.val (.ref r0), .val (.ref r1), .val (.int u)] [])) _
    refine XS.aloadN X130.here hx rfl (hb hby d12_59) rfl rfl ?_
    show Steps p.tables e below (T130.setTop (mkF m 60 #[.val (.ref r0), .val (.ref r1), .val (.int u)] [(.ref r0)])) _
    refine st152 _ ?_
    show Steps p.tables e below (T152.setTop (mkF m 63 #[.val (.ref r0), .val (.ref r1), .val (.int u)] [(.ref y2)])) _
    refine XS.iloadN X152.here hx rfl (hb hby d12_63) rfl ?_
    refine XS.aloadN X152.here hx rfl (hb hby d12_64) rfl rfl ?_
    show Steps p.tables e below (T152.setTop (mkF m 65 #[.val (.ref r0), .val (.ref r1), .val (.int u)] [(.ref r1), (.int u), (.ref y2)])) _
    refine st153.trans ?_
    show Steps p.tables e below (T153.setTop (mkF m 68 #[.val (.ref r0), .val (.ref r1), .val (.int u)] [(.long k2), (.int u), (.ref y2)])) _
    refine st155 _ ?_
    show Steps p.tables e below (T155.setTop (mkF m 69 #[.val (.ref r0), .val (.ref r1), .val (.int u)] [])) _
    refine XS.aloadN X155.here hx rfl (hb hby d12_69) rfl rfl ?_
    show Steps p.tables e below (T155.setTop (mkF m 70 #[.val (.ref r0), .val (.ref r1), .val (.int u)] [(.ref r0)])) _
    refine st177 _ ?_
    show Steps p.tables e below (T177.setTop (mkF m 73 #[.val (.ref r0), .val (.ref r1), .val (.int u)] [(.ref yo)])) _
    refine XS.iloadN X177.here hx rfl (hb hby d12_73) rfl ?_
    refine XS.lconst X177.here hx rfl (hb hby d12_74) ?_
    show Steps p.tables e below (T177.setTop (mkF m 75 #[.val (.ref r0), .val (.ref r1), .val (.int u)] [(.long (0 : Int64)), (.int u), (.ref yo)])) _
    refine st179 _ ?_
    show Steps p.tables e below (T179.setTop (mkF m 76 #[.val (.ref r0), .val (.ref r1), .val (.int u)] [])) _
    refine XS.aloadN X179.here hx rfl (hb hby d12_76) rfl rfl ?_
    show Steps p.tables e below (T179.setTop (mkF m 77 #[.val (.ref r0), .val (.ref r1), .val (.int u)] [(.ref r0)])) _
    refine st201 _ ?_
    show Steps p.tables e below (T201.setTop (mkF m 80 #[.val (.ref r0), .val (.ref r1), .val (.int u)] [(.ref ys)])) _
    refine XS.aloadN X201.here hx rfl (hb hby d12_80) rfl rfl ?_
    refine XS.aloadN X201.here hx rfl (hb hby d12_81) rfl rfl ?_
    show Steps p.tables e below (T201.setTop (mkF m 82 #[.val (.ref r0), .val (.ref r1), .val (.int u)] [(.ref r1), (.ref r0), (.ref ys)])) _
    refine st202.trans ?_
    show Steps p.tables e below (T202.setTop (mkF m 85 #[.val (.ref r0), .val (.ref r1), .val (.int u)] [(.long k1), (.ref r0), (.ref ys)])) _
    refine st203.trans ?_
    show Steps p.tables e below (T203.setTop (mkF m 88 #[.val (.ref r0), .val (.ref r1), .val (.int u)] [(.int i), (.ref ys)])) _
    refine XS.iloadN X203.here hx rfl (hb hby d12_88) rfl ?_
    show Steps p.tables e below (T203.setTop (mkF m 89 #[.val (.ref r0), .val (.ref r1), .val (.int u)] [(.int u), (.int i), (.ref ys)])) _
    refine st205 _ ?_
    show Steps p.tables e below (T205.setTop (mkF m 90 #[.val (.ref r0), .val (.ref r1), .val (.int u)] [])) _
    refine XS.aloadN X205.here hx rfl (hb hby d12_90) rfl rfl ?_
    show Steps p.tables e below (T205.setTop (mkF m 91 #[.val (.ref r0), .val (.ref r1), .val (.int u)] [(.ref r0)])) _
    refine st227 _ ?_
    show Steps p.tables e below (T227.setTop (mkF m 94 #[.val (.ref r0), .val (.ref r1), .val (.int u)] [(.ref yh)])) _
    refine XS.iloadN X227.here hx rfl (hb hby d12_94) rfl ?_
    show Steps p.tables e below (T227.setTop (mkF m 95 #[.val (.ref r0), .val (.ref r1), .val (.int u)] [(.int u), (.ref yh)])) _
    jvm_step X227.here [X227.here.top, hx, (hb hby d12_95), Value.category]
    show Steps p.tables e below (T227.setTop (mkF m 96 #[.val (.ref r0), .val (.ref r1), .val (.int u)] [(.int u), (.ref yh), (.int u), (.ref yh)])) _
    refine own_ldI X227 hx hZ e227 F216 (j := u) hin96_228 (g := (mkF m 96 #[.val (.ref r0), .val (.ref r1), .val (.int u)] [(.int u), (.ref yh), (.int u), (.ref yh)])) rfl rfl (hb hby d12_96) _ ?_
    show Steps p.tables e below (T227.setTop (mkF m 97 #[.val (.ref r0), .val (.ref r1), .val (.int u)] [(.int (hd u.toNatClampNeg)), (.int u), (.ref yh)])) _
    refine XS.iconst X227.here hx rfl (hb hby d12_97) ?_
    refine XS.iadd X227.here hx rfl (hb hby d12_98) rfl ?_
    show Steps p.tables e below (T227.setTop (mkF m 99 #[.val (.ref r0), .val (.ref r1), .val (.int u)] [(.int ((hd u.toNatClampNeg) + (1 : Int32))), (.int u), (.ref yh)])) _
    rw [← hv6]
    refine st230 _ ?_
    show Steps p.tables e below (T230.setTop (mkF m 100 #[.val (.ref r0), .val (.ref r1), .val (.int u)] [])) _
    refine XS.iloadN X230.here hx rfl (hb hby d12_100) rfl ?_
    exact kt
  refine own_go hgo252 ?_
  exact own_retI X230 hx Bd.returns Bd.notSynchronized (hb hby d12_101) (by decide) (by decide) (by rw [e230]; exact ⟨(by subst hv1 hv2 hv3 hv4 hv5 hv6 hv7; rfl), N251, K250, F231, (by subst hv7 hv6 hv5 hv4 hv3 hv2 hv1; exact F232), (by subst hv7 hv6 hv5 hv4 hv3 hv2 hv1; exact F233), (by subst hv7 hv6 hv5 hv4 hv3 hv2 hv1; exact F234), (by subst hv7 hv6 hv5 hv4 hv3 hv2 hv1; exact F235), (by subst hv7 hv6 hv5 hv4 hv3 hv2 hv1; exact F236), (by subst hv7 hv6 hv5 hv4 hv3 hv2 hv1; exact F237), (by subst hv7 hv6 hv5 hv4 hv3 hv2 hv1; exact F238), (by subst hv7 hv6 hv5 hv4 hv3 hv2 hv1; exact F239), (by subst hv7 hv6 hv5 hv4 hv3 hv2 hv1; exact F240), (by subst hv7 hv6 hv5 hv4 hv3 hv2 hv1; exact F245), (by subst hv7 hv6 hv5 hv4 hv3 hv2 hv1; exact F246), (by subst hv7 hv6 hv5 hv4 hv3 hv2 hv1; exact F247), (by subst hv7 hv6 hv5 hv4 hv3 hv2 hv1; exact F248), (by subst hv7 hv6 hv5 hv4 hv3 hv2 hv1; exact B230n)⟩)
theorem d12_18 : decode prog_13_method_4_code 18 = .ok (.aload_n 0, 1) := by decide +kernel
theorem d12_19 : decode prog_13_method_4_code 19 = .ok (.getfield 33, 3) := by decide +kernel
theorem d12_22 : decode prog_13_method_4_code 22 = .ok (.aload_n 0, 1) := by decide +kernel
theorem d12_23 : decode prog_13_method_4_code 23 = .ok (.dup, 1) := by decide +kernel
theorem d12_24 : decode prog_13_method_4_code 24 = .ok (.getfield 43, 3) := by decide +kernel
theorem d12_27 : decode prog_13_method_4_code 27 = .ok (.iconst 1, 1) := by decide +kernel
theorem d12_28 : decode prog_13_method_4_code 28 = .ok (.isub, 1) := by decide +kernel
theorem d12_29 : decode prog_13_method_4_code 29 = .ok (.dup_x1, 1) := by decide +kernel
theorem d12_30 : decode prog_13_method_4_code 30 = .ok (.putfield 43, 3) := by decide +kernel
theorem d12_33 : decode prog_13_method_4_code 33 = .ok (.iaload, 1) := by decide +kernel
theorem d12_34 : decode prog_13_method_4_code 34 = .ok (.goto 14, 3) := by decide +kernel
theorem ef_hf (m : MethodId) (r0 : Addr) (r1 : Addr) : entryFrame m #[(.ref r0), (.ref r1)] 3 = mkF m 0 #[.val (.ref r0), .val (.ref r1), .unset] [] := by (first | (simp [entryFrame, mkF, argsToLocals, Value.category]; done) | rfl)
def Qhf (Z : State) (r0 : Addr) (r1 : Addr) (y1 : Addr) (y2 : Addr) (yo : Addr) (yh : Addr) (yf : Addr) (ys : Addr) (g1 : Nat → Int64) (g2 : Nat → Int64) (oc : Nat → Int64) (hd : Nat → Int32) (fr : Nat → Int32) (f : Nat → Int32) (k1 : Int64) (k2 : Int64) (u : Int32) (t : Int32) (n : Nat) (i : Int32) (h0 : Heap) (n0 : Nat) (v : Option Value) (h : Heap) (L : List Loc) : Prop := v = some (.int (fr 0)) ∧ Fr n0 L ∧ Keep h0 h [r0, y1, y2, yo, ys, yh] ∧ Exa Z h r0 "com/example/upper_falls/upperfalls/HeldKeys" ∧ Fld Z h r0 "com/example/upper_falls/upperfalls/HeldKeys" "hash1" "[J" (.ref y1) ∧ Fld Z h r0 "com/example/upper_falls/upperfalls/HeldKeys" "hash2" "[J" (.ref y2) ∧ Fld Z h r0 "com/example/upper_falls/upperfalls/HeldKeys" "occurrences" "[J" (.ref yo) ∧ Fld Z h r0 "com/example/upper_falls/upperfalls/HeldKeys" "holders" "[I" (.ref yh) ∧ Fld Z h r0 "com/example/upper_falls/upperfalls/HeldKeys" "free" "[I" (.ref yf) ∧ Fld Z h r0 "com/example/upper_falls/upperfalls/HeldKeys" "slots" "[I" (.ref ys) ∧ Fld Z h r0 "com/example/upper_falls/upperfalls/HeldKeys" "limit" "I" (.int (16 : Int32)) ∧ Fld Z h r0 "com/example/upper_falls/upperfalls/HeldKeys" "used" "I" (.int u) ∧ Fld Z h r0 "com/example/upper_falls/upperfalls/HeldKeys" "freeCount" "I" (.int (0 : Int32)) ∧ own_AJ Z h y1 .long 16 (own_up g1 ((fr 0).toNatClampNeg) k1) ∧ own_AJ Z h y2 .long 16 (own_up g2 ((fr 0).toNatClampNeg) k2) ∧ own_AJ Z h yo .long 16 (own_up oc ((fr 0).toNatClampNeg) (0 : Int64)) ∧ own_AI Z h ys .int 32 (own_up f (i.toNatClampNeg) (fr 0)) ∧ own_AI Z h yh .int 16 (own_up hd ((fr 0).toNatClampNeg) ((hd (fr 0).toNatClampNeg) + (1 : Int32)))
set_option maxRecDepth 65536 in
set_option maxHeartbeats 40000000 in
theorem rmhf (l : Launch) (Z : State) (a0 : Array Value) (hw : ∀ d ∈ tables_1, d.before a0 Z = true) (ws : List Jvm.Cond) (r0 : Addr) (r1 : Addr) (y1 : Addr) (y2 : Addr) (yo : Addr) (yh : Addr) (yf : Addr) (ys : Addr) (g1 : Nat → Int64) (g2 : Nat → Int64) (oc : Nat → Int64) (hd : Nat → Int32) (fr : Nat → Int32) (f : Nat → Int32) (k1 : Int64) (k2 : Int64) (u : Int32) (t : Int32) (n : Nat) (i : Int32) (h0 : Heap) (n0 : Nat) (Z0 : n0 ≤ h0.size) (E_r0 : Exa Z h0 r0 "com/example/upper_falls/upperfalls/HeldKeys") (F_hash1 : Fld Z h0 r0 "com/example/upper_falls/upperfalls/HeldKeys" "hash1" "[J" (.ref y1)) (F_hash2 : Fld Z h0 r0 "com/example/upper_falls/upperfalls/HeldKeys" "hash2" "[J" (.ref y2)) (F_occurrences : Fld Z h0 r0 "com/example/upper_falls/upperfalls/HeldKeys" "occurrences" "[J" (.ref yo)) (F_holders : Fld Z h0 r0 "com/example/upper_falls/upperfalls/HeldKeys" "holders" "[I" (.ref yh)) (F_free : Fld Z h0 r0 "com/example/upper_falls/upperfalls/HeldKeys" "free" "[I" (.ref yf)) (F_slots : Fld Z h0 r0 "com/example/upper_falls/upperfalls/HeldKeys" "slots" "[I" (.ref ys)) (F_limit : Fld Z h0 r0 "com/example/upper_falls/upperfalls/HeldKeys" "limit" "I" (.int (16 : Int32))) (F_used : Fld Z h0 r0 "com/example/upper_falls/upperfalls/HeldKeys" "used" "I" (.int u)) (F_freeCount : Fld Z h0 r0 "com/example/upper_falls/upperfalls/HeldKeys" "freeCount" "I" (.int (1 : Int32))) (A_y1 : own_AJ Z h0 y1 .long 16 g1) (A_y2 : own_AJ Z h0 y2 .long 16 g2) (A_yo : own_AJ Z h0 yo .long 16 oc) (A_yh : own_AI Z h0 yh .int 16 hd) (A_yf : own_AI Z h0 yf .int 16 fr) (A_ys : own_AI Z h0 ys .int 32 f) (E_r1 : Exa Z h0 r1 "com/example/upper_falls/upperfalls/KeyHash") (F_h1 : Fld Z h0 r1 "com/example/upper_falls/upperfalls/KeyHash" "h1" "J" (.long k1)) (F_h2 : Fld Z h0 r1 "com/example/upper_falls/upperfalls/KeyHash" "h2" "J" (.long k2)) (hV : own_V n f) (hM : own_M n g1 g2 t k1 k2) (hn3 : n ≤ 3) (hy : own_fnd f t 8 ((k1.toInt32) &&& (31 : Int32)) = some (-1 : Int32)) (hu : (¬ (fr 0) < 0 ∧ (fr 0).toNatClampNeg < 16)) (he : own_emp f 8 ((k1.toInt32) &&& (31 : Int32)) = some i) (hne_y1_r0 : y1 ≠ r0) (hne_y2_r0 : y2 ≠ r0) (hne_yo_r0 : yo ≠ r0) (hne_yh_r0 : yh ≠ r0) (hne_yf_r0 : yf ≠ r0) (hne_ys_r0 : ys ≠ r0) (hne_r1_r0 : r1 ≠ r0) (g_r0 : n0 ≤ r0) (hne_r0_y1 : r0 ≠ y1) (hne_y2_y1 : y2 ≠ y1) (hne_yo_y1 : yo ≠ y1) (hne_yh_y1 : yh ≠ y1) (hne_yf_y1 : yf ≠ y1) (hne_ys_y1 : ys ≠ y1) (hne_r1_y1 : r1 ≠ y1) (g_y1 : n0 ≤ y1) (hne_r0_y2 : r0 ≠ y2) (hne_yo_y2 : yo ≠ y2) (hne_yh_y2 : yh ≠ y2) (hne_yf_y2 : yf ≠ y2) (hne_ys_y2 : ys ≠ y2) (hne_r1_y2 : r1 ≠ y2) (hne_y1_y2 : y1 ≠ y2) (g_y2 : n0 ≤ y2) (hne_r0_yo : r0 ≠ yo) (hne_yh_yo : yh ≠ yo) (hne_yf_yo : yf ≠ yo) (hne_ys_yo : ys ≠ yo) (hne_r1_yo : r1 ≠ yo) (hne_y1_yo : y1 ≠ yo) (hne_y2_yo : y2 ≠ yo) (g_yo : n0 ≤ yo) (hne_r0_ys : r0 ≠ ys) (hne_yh_ys : yh ≠ ys) (hne_yf_ys : yf ≠ ys) (hne_r1_ys : r1 ≠ ys) (hne_y1_ys : y1 ≠ ys) (hne_y2_ys : y2 ≠ ys) (hne_yo_ys : yo ≠ ys) (g_ys : n0 ≤ ys) (hne_r0_yh : r0 ≠ yh) (hne_yf_yh : yf ≠ yh) (hne_r1_yh : r1 ≠ yh) (hne_y1_yh : y1 ≠ yh) (hne_y2_yh : y2 ≠ yh) (hne_yo_yh : yo ≠ yh) (hne_ys_yh : ys ≠ yh) (g_yh : n0 ≤ yh) :
    MetFree l (⟨"com/example/upper_falls/upperfalls/HeldKeys", "hold", "(Lcom/example/upper_falls/upperfalls/KeyHash;)I"⟩ : MethodName) (head1 (Jvm.Cond.code (⟨"com/example/upper_falls/upperfalls/HeldKeys", "hold", "(Lcom/example/upper_falls/upperfalls/KeyHash;)I"⟩ : MethodName) prog_13_method_4_code 3 (some .int) :: ws) ({ frames := 2, cells := 0, slots := 0, locals := 57 } : Room)) (fun a U => a = #[(.ref r0), (.ref r1)] ∧ Z.Warmed39 U.vm ∧ U.heap = h0) (fun _ _ _ _ _ => True) (fun _ U o U' => ∃ v L, o = .returned v ∧ Qhf Z r0 r1 y1 y2 yo yh yf ys g1 g2 oc hd fr f k1 k2 u t n i h0 n0 v U'.heap L ∧ FrameEnd U o U' L ({ frames := 2, cells := 0, slots := 0, locals := 57 } : Room).cells ({ frames := 2, cells := 0, slots := 0, locals := 57 } : Room).slots) := by
  refine MetFree.of_bodySF (plainFor_of_name pn9) hisR ?_
  intro p e s m args below meth c s₁ Bd hml0 hP hK
  obtain ⟨rfl, hZ, hh⟩ := hP
  have hx := Bd.exec
  have hby := Bd.bytes
  have hml : c.maxLocals = 3 := hml0
  have hown : s.vm.findClass "com/example/upper_falls/upperfalls/HeldKeys" = some m.cls := findClass_of_methodNamed Bd.named
  have hnm := (name_of_methodNamed Bd.named Bd.method).1
  have X0 : Stand p l e ({ frames := 2, cells := 0, slots := 0, locals := 57 } : Room) s m #[(.ref r0), (.ref r1)] below meth c s₁ [] 0 0 := Stand.of_body Bd
  have e0 : s₁.heap = h0 := by rw [← hh, Bd.state]; rfl
  have N0 := Fr.nil n0
  have K0 : Keep h0 h0 [r0, y1, y2, yo, ys, yh] := Keep.refl h0 _
  show own_Go p e below s (Qhf Z r0 r1 y1 y2 yo yh yf ys g1 g2 oc hd fr f k1 k2 u t n i h0 n0) ({ frames := 2, cells := 0, slots := 0, locals := 57 } : Room).cells ({ frames := 2, cells := 0, slots := 0, locals := 57 } : Room).slots (s₁.setTop (entryFrame m #[(.ref r0), (.ref r1)] 3))
  refine own_go (fun t k => castTop (ef_hf m r0 r1) k) ?_
  obtain ⟨cq101, kq101, q101a, q101b, q101c⟩ := isOf hZ e0 E_r0
  obtain ⟨_, _, ⟨T101, L101, k101, n101⟩, -, X101, ⟨Lc101, hQ101, l101, y101, z101⟩, st101⟩ := X0.virtualBack hx (y := (⟨"com/example/upper_falls/upperfalls/HeldKeys", "find", "(Lcom/example/upper_falls/upperfalls/KeyHash;)I"⟩ : MethodName)) (z := (⟨"com/example/upper_falls/upperfalls/HeldKeys", "find", "(Lcom/example/upper_falls/upperfalls/KeyHash;)I"⟩ : MethodName)) hown (mvT hZ (own_wd hw 76 rfl)) (mvT hZ (own_wd hw 77 rfl)) (notFace_of_selects (args := #[]) (mvT hZ (own_wd hw 79 rfl))) (mvT hZ (own_wd hw 79 rfl)) (mvT hZ (own_wd hw 78 rfl)) (by decide) (backOf (W := 0) (rmfd l Z a0 hw [] r0 r1 ys y1 y2 f g1 g2 k1 k2 t n (-1 : Int32) h0 n0 Z0 E_r0 F_slots F_hash1 F_hash2 A_ys A_y1 A_y2 E_r1 F_h1 F_h2 (hV : own_V n f) (hM : own_M n g1 g2 t k1 k2) (hn3 : n ≤ 3) (hy : own_fnd f t 8 ((k1.toInt32) &&& (31 : Int32)) = some (-1 : Int32))) hZ (own_wd hw 80 rfl) (own_wd hw 27 rfl) (by decide) (by decide)) q101a q101c (g := (mkF m 2 #[.val (.ref r0), .val (.ref r1), .unset] [(.ref r1), (.ref r0)])) rfl (by rw [hml]; rfl) (Steps.refl _) (argsL := [(.ref r1)]) (rest := []) (lenOf pd13 rfl) rfl (by show 2 * 0 + _ ≤ _; exact Nat.le_of_eq rfl) (hb hby d12_2) (fun _ _ => ⟨rfl, e0, (by decide : 0 + 0 ≤ _), (by decide : 0 + 0 ≤ _)⟩)
  dsimp only [Pt.U, Pt.locs, Pt.cells, Pt.slots] at X101 l101 y101 z101 st101 hQ101
  subst l101 y101 z101
  obtain ⟨rfl, N101q, e101⟩ := hQ101
  have N101 := Fr.app N0 N101q
  obtain ⟨T102, X102, e102, st102⟩ := getF X101 hx hZ hown (host := "") (Or.inl (own_wd hw 90 rfl)) Via.refl e101 F_freeCount (g := (mkF m 12 #[.val (.ref r0), .val (.ref r1), .val (.int (-1 : Int32))] [(.ref r0)])) rfl rfl (hb hby d12_12)
  obtain ⟨T103, X103, e103, st103⟩ := getF X102 hx hZ hown (host := "") (Or.inl (own_wd hw 48 rfl)) Via.refl e102 F_free (g := (mkF m 19 #[.val (.ref r0), .val (.ref r1), .val (.int (-1 : Int32))] [(.ref r0)])) rfl rfl (hb hby d12_19)
  obtain ⟨T104, X104, e104, st104⟩ := getF X103 hx hZ hown (host := "") (Or.inl (own_wd hw 90 rfl)) Via.refl e103 F_freeCount (g := (mkF m 24 #[.val (.ref r0), .val (.ref r1), .val (.int (-1 : Int32))] [(.ref r0), (.ref r0), (.ref yf)])) rfl rfl (hb hby d12_24)
  obtain ⟨T105, h105, X105, e105, W105, st105⟩ := putF X104 hx hZ hown (host := "") (Or.inl (own_wd hw 90 rfl)) Via.refl e104 F_freeCount E_r0 (Or.inl (own_wd hw 91 rfl)) (own_wd hw 26 rfl) (ty := .int) (by decide) rfl rfl (g := (mkF m 30 #[.val (.ref r0), .val (.ref r1), .val (.int (-1 : Int32))] [(.int (0 : Int32)), (.ref r0), (.int (0 : Int32)), (.ref yf)])) rfl rfl (hb hby d12_30)
  have F106 := E_r0.wr W105
  have F107 := F_hash1.other W105 (Or.inr (slot_ne (Or.inl (own_wd hw 40 rfl)) (Or.inl (own_wd hw 91 rfl)) (by decide) (t := (.array .long)) (t' := .int) (by decide) (by decide)))
  have F108 := F_hash2.other W105 (Or.inr (slot_ne (Or.inl (own_wd hw 42 rfl)) (Or.inl (own_wd hw 91 rfl)) (by decide) (t := (.array .long)) (t' := .int) (by decide) (by decide)))
  have F109 := F_occurrences.other W105 (Or.inr (slot_ne (Or.inl (own_wd hw 44 rfl)) (Or.inl (own_wd hw 91 rfl)) (by decide) (t := (.array .long)) (t' := .int) (by decide) (by decide)))
  have F110 := F_holders.other W105 (Or.inr (slot_ne (Or.inl (own_wd hw 47 rfl)) (Or.inl (own_wd hw 91 rfl)) (by decide) (t := (.array .int)) (t' := .int) (by decide) (by decide)))
  have F111 := F_free.other W105 (Or.inr (slot_ne (Or.inl (own_wd hw 49 rfl)) (Or.inl (own_wd hw 91 rfl)) (by decide) (t := (.array .int)) (t' := .int) (by decide) (by decide)))
  have F112 := F_slots.other W105 (Or.inr (slot_ne (Or.inl (own_wd hw 70 rfl)) (Or.inl (own_wd hw 91 rfl)) (by decide) (t := (.array .int)) (t' := .int) (by decide) (by decide)))
  have F113 := F_limit.other W105 (Or.inr (slot_ne (Or.inr (own_wd hw 33 rfl)) (Or.inl (own_wd hw 91 rfl)) (by decide) (t := .int) (t' := .int) (by decide) (by decide)))
  have F114 := F_used.other W105 (Or.inr (slot_ne (Or.inl (own_wd hw 93 rfl)) (Or.inl (own_wd hw 91 rfl)) (by decide) (t := .int) (t' := .int) (by decide) (by decide)))
  have F115 := F_freeCount.same W105
  have F116 := A_y1.other W105 hne_y1_r0
  have F117 := A_y2.other W105 hne_y2_r0
  have F118 := A_yo.other W105 hne_yo_r0
  have F119 := A_yh.other W105 hne_yh_r0
  have F120 := A_yf.other W105 hne_yf_r0
  have F121 := A_ys.other W105 hne_ys_r0
  have F122 := E_r1.wr W105
  have F123 := F_h1.other W105 (Or.inl hne_r1_r0)
  have F124 := F_h2.other W105 (Or.inl hne_r1_r0)
  have Z125 : n0 ≤ h105.size := Nat.le_trans Z0 (Keep.of_wr W105).1
  have K126 : Keep h0 h105 [r0, y1, y2, yo, ys, yh] := K0.wr W105 (Or.inl (List.mem_of_getElem? (i := 0) rfl))
  have N127 := Fr.snoc X105 N101 g_r0
  have hin33_128 : ¬ (0 : Int32) < 0 ∧ (0 : Int32).toNatClampNeg < 16 := by decide
  obtain ⟨v1, hv1⟩ : ∃ z : Int32, z = (fr 0) := ⟨_, rfl⟩
  obtain ⟨T129, X129, e129, st129⟩ := getF X105 hx hZ hown (host := "") (Or.inl (own_wd hw 39 rfl)) Via.refl e105 F107 (g := (mkF m 50 #[.val (.ref r0), .val (.ref r1), .val (.int v1)] [(.ref r0)])) rfl rfl (hb hby d12_50)
  obtain ⟨cq130, kq130, q130a, q130b, q130c⟩ := isOf hZ e129 F122
  obtain ⟨_, _, ⟨T130, L130, k130, n130⟩, -, X130, ⟨Lc130, hQ130, l130, y130, z130⟩, st130⟩ := X129.virtualBack hx (y := (⟨"com/example/upper_falls/upperfalls/KeyHash", "h1", "()J"⟩ : MethodName)) (z := (⟨"com/example/upper_falls/upperfalls/KeyHash", "h1", "()J"⟩ : MethodName)) hown (mvT hZ (own_wd hw 81 rfl)) (mvT hZ (own_wd hw 82 rfl)) (notFace_of_selects (args := #[]) (mvT hZ (own_wd hw 84 rfl))) (mvT hZ (own_wd hw 84 rfl)) (mvT hZ (own_wd hw 83 rfl)) (by decide) (backOf (W := 2) (rmh1 l Z a0 hw [] r1 k1 h105 n0 Z125 F123) hZ (own_wd hw 85 rfl) (own_wd hw 2 rfl) (by decide) (by decide)) q130a q130c (g := (mkF m 55 #[.val (.ref r0), .val (.ref r1), .val (.int v1)] [(.ref r1), (.int v1), (.ref y1)])) rfl (by rw [hml]; rfl) (Steps.refl _) (argsL := []) (rest := [(.int v1), (.ref y1)]) (lenOf pd11 rfl) rfl (by show 2 * 0 + _ ≤ _; exact Nat.le_of_eq rfl) (hb hby d12_55) (fun _ _ => ⟨rfl, e129, (by decide : 0 + 0 ≤ _), (by decide : 0 + 0 ≤ _)⟩)
  dsimp only [Pt.U, Pt.locs, Pt.cells, Pt.slots] at X130 l130 y130 z130 st130 hQ130
  subst l130 y130 z130
  obtain ⟨rfl, N130q, e130⟩ := hQ130
  have N130 := Fr.app N127 N130q
  have hin58_131 : ¬ v1 < 0 ∧ v1.toNatClampNeg < 16 := (by rw [hv1]; exact hu)
  obtain ⟨T132, h132, X132, e132, W132, B132, st132⟩ := own_stJ X130 hx hZ e130 F116 (j := v1) (x := k1) hin58_131 (g := (mkF m 58 #[.val (.ref r0), .val (.ref r1), .val (.int v1)] [(.long k1), (.int v1), (.ref y1)])) rfl rfl (hb hby d12_58)
  obtain ⟨v2, hv2⟩ : ∃ z : Nat → Int64, z = (own_up g1 (v1.toNatClampNeg) k1) := ⟨_, rfl⟩
  have B132n : own_AJ Z h132 y1 .long 16 v2 := by rw [hv2]; exact B132
  have F133 := F106.wr W132
  have F134 := F107.other W132 (Or.inl hne_r0_y1)
  have F135 := F108.other W132 (Or.inl hne_r0_y1)
  have F136 := F109.other W132 (Or.inl hne_r0_y1)
  have F137 := F110.other W132 (Or.inl hne_r0_y1)
  have F138 := F111.other W132 (Or.inl hne_r0_y1)
  have F139 := F112.other W132 (Or.inl hne_r0_y1)
  have F140 := F113.other W132 (Or.inl hne_r0_y1)
  have F141 := F114.other W132 (Or.inl hne_r0_y1)
  have F142 := F115.other W132 (Or.inl hne_r0_y1)
  have F143 := F117.other W132 hne_y2_y1
  have F144 := F118.other W132 hne_yo_y1
  have F145 := F119.other W132 hne_yh_y1
  have F146 := F120.other W132 hne_yf_y1
  have F147 := F121.other W132 hne_ys_y1
  have F148 := F122.wr W132
  have F149 := F123.other W132 (Or.inl hne_r1_y1)
  have F150 := F124.other W132 (Or.inl hne_r1_y1)
  have Z151 : n0 ≤ h132.size := Nat.le_trans Z125 (Keep.of_wr W132).1
  have K152 : Keep h0 h132 [r0, y1, y2, yo, ys, yh] := K126.wr W132 (Or.inl (List.mem_of_getElem? (i := 1) rfl))
  have N153 := Fr.snoc X132 N130 g_y1
  obtain ⟨T154, X154, e154, st154⟩ := getF X132 hx hZ hown (host := "") (Or.inl (own_wd hw 41 rfl)) Via.refl e132 F135 (g := (mkF m 60 #[.val (.ref r0), .val (.ref r1), .val (.int v1)] [(.ref r0)])) rfl rfl (hb hby d12_60)
  obtain ⟨cq155, kq155, q155a, q155b, q155c⟩ := isOf hZ e154 F148
  obtain ⟨_, _, ⟨T155, L155, k155, n155⟩, -, X155, ⟨Lc155, hQ155, l155, y155, z155⟩, st155⟩ := X154.virtualBack hx (y := (⟨"com/example/upper_falls/upperfalls/KeyHash", "h2", "()J"⟩ : MethodName)) (z := (⟨"com/example/upper_falls/upperfalls/KeyHash", "h2", "()J"⟩ : MethodName)) hown (mvT hZ (own_wd hw 94 rfl)) (mvT hZ (own_wd hw 95 rfl)) (notFace_of_selects (args := #[]) (mvT hZ (own_wd hw 97 rfl))) (mvT hZ (own_wd hw 97 rfl)) (mvT hZ (own_wd hw 96 rfl)) (by decide) (backOf (W := 2) (rmh2 l Z a0 hw [] r1 k2 h132 n0 Z151 F150) hZ (own_wd hw 98 rfl) (own_wd hw 2 rfl) (by decide) (by decide)) q155a q155c (g := (mkF m 65 #[.val (.ref r0), .val (.ref r1), .val (.int v1)] [(.ref r1), (.int v1), (.ref y2)])) rfl (by rw [hml]; rfl) (Steps.refl _) (argsL := []) (rest := [(.int v1), (.ref y2)]) (lenOf pd11 rfl) rfl (by show 2 * 0 + _ ≤ _; exact Nat.le_of_eq rfl) (hb hby d12_65) (fun _ _ => ⟨rfl, e154, (by decide : 0 + 0 ≤ _), (by decide : 0 + 0 ≤ _)⟩)
  dsimp only [Pt.U, Pt.locs, Pt.cells, Pt.slots] at X155 l155 y155 z155 st155 hQ155
  subst l155 y155 z155
  obtain ⟨rfl, N155q, e155⟩ := hQ155
  have N155 := Fr.app N153 N155q
  have hin68_156 : ¬ v1 < 0 ∧ v1.toNatClampNeg < 16 := (by rw [hv1]; exact hu)
  obtain ⟨T157, h157, X157, e157, W157, B157, st157⟩ := own_stJ X155 hx hZ e155 F143 (j := v1) (x := k2) hin68_156 (g := (mkF m 68 #[.val (.ref r0), .val (.ref r1), .val (.int v1)] [(.long k2), (.int v1), (.ref y2)])) rfl rfl (hb hby d12_68)
  obtain ⟨v3, hv3⟩ : ∃ z : Nat → Int64, z = (own_up g2 (v1.toNatClampNeg) k2) := ⟨_, rfl⟩
  have B157n : own_AJ Z h157 y2 .long 16 v3 := by rw [hv3]; exact B157
  have F158 := F133.wr W157
  have F159 := F134.other W157 (Or.inl hne_r0_y2)
  have F160 := F135.other W157 (Or.inl hne_r0_y2)
  have F161 := F136.other W157 (Or.inl hne_r0_y2)
  have F162 := F137.other W157 (Or.inl hne_r0_y2)
  have F163 := F138.other W157 (Or.inl hne_r0_y2)
  have F164 := F139.other W157 (Or.inl hne_r0_y2)
  have F165 := F140.other W157 (Or.inl hne_r0_y2)
  have F166 := F141.other W157 (Or.inl hne_r0_y2)
  have F167 := F142.other W157 (Or.inl hne_r0_y2)
  have F168 := F144.other W157 hne_yo_y2
  have F169 := F145.other W157 hne_yh_y2
  have F170 := F146.other W157 hne_yf_y2
  have F171 := F147.other W157 hne_ys_y2
  have F172 := F148.wr W157
  have F173 := F149.other W157 (Or.inl hne_r1_y2)
  have F174 := F150.other W157 (Or.inl hne_r1_y2)
  have F175 := B132n.other W157 hne_y1_y2
  have Z176 : n0 ≤ h157.size := Nat.le_trans Z151 (Keep.of_wr W157).1
  have K177 : Keep h0 h157 [r0, y1, y2, yo, ys, yh] := K152.wr W157 (Or.inl (List.mem_of_getElem? (i := 2) rfl))
  have N178 := Fr.snoc X157 N155 g_y2
  obtain ⟨T179, X179, e179, st179⟩ := getF X157 hx hZ hown (host := "") (Or.inl (own_wd hw 43 rfl)) Via.refl e157 F161 (g := (mkF m 70 #[.val (.ref r0), .val (.ref r1), .val (.int v1)] [(.ref r0)])) rfl rfl (hb hby d12_70)
  have hin75_180 : ¬ v1 < 0 ∧ v1.toNatClampNeg < 16 := (by rw [hv1]; exact hu)
  obtain ⟨T181, h181, X181, e181, W181, B181, st181⟩ := own_stJ X179 hx hZ e179 F168 (j := v1) (x := (0 : Int64)) hin75_180 (g := (mkF m 75 #[.val (.ref r0), .val (.ref r1), .val (.int v1)] [(.long (0 : Int64)), (.int v1), (.ref yo)])) rfl rfl (hb hby d12_75)
  obtain ⟨v4, hv4⟩ : ∃ z : Nat → Int64, z = (own_up oc (v1.toNatClampNeg) (0 : Int64)) := ⟨_, rfl⟩
  have B181n : own_AJ Z h181 yo .long 16 v4 := by rw [hv4]; exact B181
  have F182 := F158.wr W181
  have F183 := F159.other W181 (Or.inl hne_r0_yo)
  have F184 := F160.other W181 (Or.inl hne_r0_yo)
  have F185 := F161.other W181 (Or.inl hne_r0_yo)
  have F186 := F162.other W181 (Or.inl hne_r0_yo)
  have F187 := F163.other W181 (Or.inl hne_r0_yo)
  have F188 := F164.other W181 (Or.inl hne_r0_yo)
  have F189 := F165.other W181 (Or.inl hne_r0_yo)
  have F190 := F166.other W181 (Or.inl hne_r0_yo)
  have F191 := F167.other W181 (Or.inl hne_r0_yo)
  have F192 := F169.other W181 hne_yh_yo
  have F193 := F170.other W181 hne_yf_yo
  have F194 := F171.other W181 hne_ys_yo
  have F195 := F172.wr W181
  have F196 := F173.other W181 (Or.inl hne_r1_yo)
  have F197 := F174.other W181 (Or.inl hne_r1_yo)
  have F198 := F175.other W181 hne_y1_yo
  have F199 := B157n.other W181 hne_y2_yo
  have Z200 : n0 ≤ h181.size := Nat.le_trans Z176 (Keep.of_wr W181).1
  have K201 : Keep h0 h181 [r0, y1, y2, yo, ys, yh] := K177.wr W181 (Or.inl (List.mem_of_getElem? (i := 3) rfl))
  have N202 := Fr.snoc X181 N178 g_yo
  obtain ⟨T203, X203, e203, st203⟩ := getF X181 hx hZ hown (host := "") (Or.inl (own_wd hw 69 rfl)) Via.refl e181 F188 (g := (mkF m 77 #[.val (.ref r0), .val (.ref r1), .val (.int v1)] [(.ref r0)])) rfl rfl (hb hby d12_77)
  obtain ⟨cq204, kq204, q204a, q204b, q204c⟩ := isOf hZ e203 F195
  obtain ⟨_, _, ⟨T204, L204, k204, n204⟩, -, X204, ⟨Lc204, hQ204, l204, y204, z204⟩, st204⟩ := X203.virtualBack hx (y := (⟨"com/example/upper_falls/upperfalls/KeyHash", "h1", "()J"⟩ : MethodName)) (z := (⟨"com/example/upper_falls/upperfalls/KeyHash", "h1", "()J"⟩ : MethodName)) hown (mvT hZ (own_wd hw 81 rfl)) (mvT hZ (own_wd hw 82 rfl)) (notFace_of_selects (args := #[]) (mvT hZ (own_wd hw 84 rfl))) (mvT hZ (own_wd hw 84 rfl)) (mvT hZ (own_wd hw 83 rfl)) (by decide) (backOf (W := 2) (rmh1 l Z a0 hw [] r1 k1 h181 n0 Z200 F196) hZ (own_wd hw 85 rfl) (own_wd hw 2 rfl) (by decide) (by decide)) q204a q204c (g := (mkF m 82 #[.val (.ref r0), .val (.ref r1), .val (.int v1)] [(.ref r1), (.ref r0), (.ref ys)])) rfl (by rw [hml]; rfl) (Steps.refl _) (argsL := []) (rest := [(.ref r0), (.ref ys)]) (lenOf pd11 rfl) rfl (by show 2 * 0 + _ ≤ _; exact Nat.le_of_eq rfl) (hb hby d12_82) (fun _ _ => ⟨rfl, e203, (by decide : 0 + 0 ≤ _), (by decide : 0 + 0 ≤ _)⟩)
  dsimp only [Pt.U, Pt.locs, Pt.cells, Pt.slots] at X204 l204 y204 z204 st204 hQ204
  subst l204 y204 z204
  obtain ⟨rfl, N204q, e204⟩ := hQ204
  have N204 := Fr.app N202 N204q
  obtain ⟨cq205, q205, q205'⟩ := F182.cell
  obtain ⟨_, _, ⟨T205, L205, k205, n205⟩, -, X205, ⟨Lc205, hQ205, l205, y205, z205⟩, st205⟩ := X204.privateBack hx (y := (⟨"com/example/upper_falls/upperfalls/HeldKeys", "emptySlot", "(J)I"⟩ : MethodName)) hown (mvT hZ (own_wd hw 99 rfl)) (mvT hZ (own_wd hw 100 rfl)) (own_selPriv (mvT hZ (own_wd hw 26 rfl)) (mvT hZ (own_wd hw 100 rfl)) (Cond.privateMethod_at (mvP hZ (own_wd hw 101 rfl) (args := #[]))) (by decide)) (Cond.privateMethod_at (mvP hZ (own_wd hw 101 rfl) (args := #[]))) (mvT hZ (own_wd hw 102 rfl)) (by decide) (backOf (W := 1) (rmes l Z a0 hw [] r0 k1 ys f i h181 n0 Z200 F182 F188 F194 (he : own_emp f 8 ((k1.toInt32) &&& (31 : Int32)) = some i)) hZ (own_wd hw 102 rfl) (own_wd hw 27 rfl) (by decide) (by decide)) (g := (mkF m 85 #[.val (.ref r0), .val (.ref r1), .val (.int v1)] [(.long k1), (.ref r0), (.ref ys)])) rfl (by rw [hml]; rfl) (Steps.refl _) (a := r0) (by rw [e204]; exact q205) q205' (argsL := [(.long k1)]) (rest := [(.ref ys)]) (lenOf pd12 rfl) rfl (by show 2 * 0 + _ ≤ _; exact Nat.le_of_eq rfl) (hb hby d12_85) (fun _ _ => ⟨rfl, e204, (by decide : 0 + 0 ≤ _), (by decide : 0 + 0 ≤ _)⟩)
  dsimp only [Pt.U, Pt.locs, Pt.cells, Pt.slots] at X205 l205 y205 z205 st205 hQ205
  subst l205 y205 z205
  obtain ⟨rfl, N205q, e205⟩ := hQ205
  have N205 := Fr.app N204 N205q
  have hin89_206 : ¬ i < 0 ∧ i.toNatClampNeg < 32 := own_eB he (own_and31 _)
  obtain ⟨T207, h207, X207, e207, W207, B207, st207⟩ := own_stI X205 hx hZ e205 F194 (j := i) (x := v1) hin89_206 (g := (mkF m 89 #[.val (.ref r0), .val (.ref r1), .val (.int v1)] [(.int v1), (.int i), (.ref ys)])) rfl rfl (hb hby d12_89)
  obtain ⟨v5, hv5⟩ : ∃ z : Nat → Int32, z = (own_up f (i.toNatClampNeg) v1) := ⟨_, rfl⟩
  have B207n : own_AI Z h207 ys .int 32 v5 := by rw [hv5]; exact B207
  have F208 := F182.wr W207
  have F209 := F183.other W207 (Or.inl hne_r0_ys)
  have F210 := F184.other W207 (Or.inl hne_r0_ys)
  have F211 := F185.other W207 (Or.inl hne_r0_ys)
  have F212 := F186.other W207 (Or.inl hne_r0_ys)
  have F213 := F187.other W207 (Or.inl hne_r0_ys)
  have F214 := F188.other W207 (Or.inl hne_r0_ys)
  have F215 := F189.other W207 (Or.inl hne_r0_ys)
  have F216 := F190.other W207 (Or.inl hne_r0_ys)
  have F217 := F191.other W207 (Or.inl hne_r0_ys)
  have F218 := F192.other W207 hne_yh_ys
  have F219 := F193.other W207 hne_yf_ys
  have F220 := F195.wr W207
  have F221 := F196.other W207 (Or.inl hne_r1_ys)
  have F222 := F197.other W207 (Or.inl hne_r1_ys)
  have F223 := F198.other W207 hne_y1_ys
  have F224 := F199.other W207 hne_y2_ys
  have F225 := B181n.other W207 hne_yo_ys
  have Z226 : n0 ≤ h207.size := Nat.le_trans Z200 (Keep.of_wr W207).1
  have K227 : Keep h0 h207 [r0, y1, y2, yo, ys, yh] := K201.wr W207 (Or.inl (List.mem_of_getElem? (i := 4) rfl))
  have N228 := Fr.snoc X207 N205 g_ys
  obtain ⟨T229, X229, e229, st229⟩ := getF X207 hx hZ hown (host := "") (Or.inl (own_wd hw 46 rfl)) Via.refl e207 F212 (g := (mkF m 91 #[.val (.ref r0), .val (.ref r1), .val (.int v1)] [(.ref r0)])) rfl rfl (hb hby d12_91)
  have hin96_230 : ¬ v1 < 0 ∧ v1.toNatClampNeg < 16 := (by rw [hv1]; exact hu)
  obtain ⟨v6, hv6⟩ : ∃ z : Int32, z = ((hd v1.toNatClampNeg) + (1 : Int32)) := ⟨_, rfl⟩
  have hin99_231 : ¬ v1 < 0 ∧ v1.toNatClampNeg < 16 := (by rw [hv1]; exact hu)
  obtain ⟨T232, h232, X232, e232, W232, B232, st232⟩ := own_stI X229 hx hZ e229 F218 (j := v1) (x := v6) hin99_231 (g := (mkF m 99 #[.val (.ref r0), .val (.ref r1), .val (.int v1)] [(.int v6), (.int v1), (.ref yh)])) rfl rfl (hb hby d12_99)
  obtain ⟨v7, hv7⟩ : ∃ z : Nat → Int32, z = (own_up hd (v1.toNatClampNeg) v6) := ⟨_, rfl⟩
  have B232n : own_AI Z h232 yh .int 16 v7 := by rw [hv7]; exact B232
  have F233 := F208.wr W232
  have F234 := F209.other W232 (Or.inl hne_r0_yh)
  have F235 := F210.other W232 (Or.inl hne_r0_yh)
  have F236 := F211.other W232 (Or.inl hne_r0_yh)
  have F237 := F212.other W232 (Or.inl hne_r0_yh)
  have F238 := F213.other W232 (Or.inl hne_r0_yh)
  have F239 := F214.other W232 (Or.inl hne_r0_yh)
  have F240 := F215.other W232 (Or.inl hne_r0_yh)
  have F241 := F216.other W232 (Or.inl hne_r0_yh)
  have F242 := F217.other W232 (Or.inl hne_r0_yh)
  have F243 := F219.other W232 hne_yf_yh
  have F244 := F220.wr W232
  have F245 := F221.other W232 (Or.inl hne_r1_yh)
  have F246 := F222.other W232 (Or.inl hne_r1_yh)
  have F247 := F223.other W232 hne_y1_yh
  have F248 := F224.other W232 hne_y2_yh
  have F249 := F225.other W232 hne_yo_yh
  have F250 := B207n.other W232 hne_ys_yh
  have Z251 : n0 ≤ h232.size := Nat.le_trans Z226 (Keep.of_wr W232).1
  have K252 : Keep h0 h232 [r0, y1, y2, yo, ys, yh] := K227.wr W232 (Or.inl (List.mem_of_getElem? (i := 5) rfl))
  have N253 := Fr.snoc X232 N228 g_yh
  have hgo254 : ∀ t, Steps p.tables e below (T232.setTop (mkF m 101 #[.val (.ref r0), .val (.ref r1), .val (.int v1)] [(.int v1)])) t → Steps p.tables e below (s₁.setTop (mkF m 0 #[.val (.ref r0), .val (.ref r1), .unset] [])) t := by
    intro t kt
    show Steps p.tables e below (s₁.setTop (mkF m 0 #[.val (.ref r0), .val (.ref r1), .unset] [])) _
    refine XS.aloadN X0.here hx rfl (hb hby d12_0) rfl rfl ?_
    refine XS.aloadN X0.here hx rfl (hb hby d12_1) rfl rfl ?_
    show Steps p.tables e below (s₁.setTop (mkF m 2 #[.val (.ref r0), .val (.ref r1), .unset] [(.ref r1), (.ref r0)])) _
    refine st101.trans ?_
    show Steps p.tables e below (T101.setTop (mkF m 5 #[.val (.ref r0), .val (.ref r1), .unset] [(.int (-1 : Int32))])) _
    refine XS.istoreN X101.here hx rfl (hb hby d12_5) rfl (l' := #[.val (.ref r0), .val (.ref r1), .val (.int (-1 : Int32))]) rfl ?_
    show Steps p.tables e below (T101.setTop (mkF m 6 #[.val (.ref r0), .val (.ref r1), .val (.int (-1 : Int32))] [])) _
    refine XS.iloadN X101.here hx rfl (hb hby d12_6) rfl ?_
    refine XS.iconst X101.here hx rfl (hb hby d12_7) ?_
    refine XS.icmpNo X101.here hx rfl (hb hby d12_8) rfl (teq (by decide : (-1 : Int32) = (-1 : Int32))).2 ?_
    show Steps p.tables e below (T101.setTop (mkF m 11 #[.val (.ref r0), .val (.ref r1), .val (.int (-1 : Int32))] [])) _
    refine XS.aloadN X101.here hx rfl (hb hby d12_11) rfl rfl ?_
    show Steps p.tables e below (T101.setTop (mkF m 12 #[.val (.ref r0), .val (.ref r1), .val (.int (-1 : Int32))] [(.ref r0)])) _
    refine st102 _ ?_
    show Steps p.tables e below (T102.setTop (mkF m 15 #[.val (.ref r0), .val (.ref r1), .val (.int (-1 : Int32))] [(.int (1 : Int32))])) _
    refine XS.ifNo X102.here hx rfl (hb hby d12_15) rfl ((if0 _ _).trans (tlt (by decide : (0 : Int32) < (1 : Int32))).2.2.2) ?_
    show Steps p.tables e below (T102.setTop (mkF m 18 #[.val (.ref r0), .val (.ref r1), .val (.int (-1 : Int32))] [])) _
    refine XS.aloadN X102.here hx rfl (hb hby d12_18) rfl rfl ?_
    show Steps p.tables e below (T102.setTop (mkF m 19 #[.val (.ref r0), .val (.ref r1), .val (.int (-1 : Int32))] [(.ref r0)])) _
    refine st103 _ ?_
    show Steps p.tables e below (T103.setTop (mkF m 22 #[.val (.ref r0), .val (.ref r1), .val (.int (-1 : Int32))] [(.ref yf)])) _
    refine XS.aloadN X103.here hx rfl (hb hby d12_22) rfl rfl ?_
    refine XS.dup X103.here hx rfl (hb hby d12_23) rfl rfl ?_
    show Steps p.tables e below (T103.setTop (mkF m 24 #[.val (.ref r0), .val (.ref r1), .val (.int (-1 : Int32))] [(.ref r0), (.ref r0), (.ref yf)])) _
    refine st104 _ ?_
    show Steps p.tables e below (T104.setTop (mkF m 27 #[.val (.ref r0), .val (.ref r1), .val (.int (-1 : Int32))] [(.int (1 : Int32)), (.ref r0), (.ref yf)])) _
    refine XS.iconst X104.here hx rfl (hb hby d12_27) ?_
    refine XS.isub X104.here hx rfl (hb hby d12_28) rfl ?_
    show Steps p.tables e below (T104.setTop (mkF m 29 #[.val (.ref r0), .val (.ref r1), .val (.int (-1 : Int32))] [(.int (0 : Int32)), (.ref r0), (.ref yf)])) _
    refine XS.dupX1 X104.here hx rfl (hb hby d12_29) rfl rfl rfl ?_
    show Steps p.tables e below (T104.setTop (mkF m 30 #[.val (.ref r0), .val (.ref r1), .val (.int (-1 : Int32))] [(.int (0 : Int32)), (.ref r0), (.int (0 : Int32)), (.ref yf)])) _
    refine st105 _ ?_
    show Steps p.tables e below (T105.setTop (mkF m 33 #[.val (.ref r0), .val (.ref r1), .val (.int (-1 : Int32))] [(.int (0 : Int32)), (.ref yf)])) _
    refine own_ldI X105 hx hZ e105 F120 (j := (0 : Int32)) hin33_128 (g := (mkF m 33 #[.val (.ref r0), .val (.ref r1), .val (.int (-1 : Int32))] [(.int (0 : Int32)), (.ref yf)])) rfl rfl (hb hby d12_33) _ ?_
    show Steps p.tables e below (T105.setTop (mkF m 34 #[.val (.ref r0), .val (.ref r1), .val (.int (-1 : Int32))] [(.int (fr 0))])) _
    refine XS.goto X105.here hx rfl (pc0 := 34) (pc' := 48) rfl (hb hby d12_34) (by decide) (by decide) ?_
    show Steps p.tables e below (T105.setTop (mkF m 48 #[.val (.ref r0), .val (.ref r1), .val (.int (-1 : Int32))] [(.int (fr 0))])) _
    rw [← hv1]
    show Steps p.tables e below (T105.setTop (mkF m 48 #[.val (.ref r0), .val (.ref r1), .val (.int (-1 : Int32))] [(.int v1)])) _
    refine XS.istoreN X105.here hx rfl (hb hby d12_48) rfl (l' := #[.val (.ref r0), .val (.ref r1), .val (.int v1)]) rfl ?_
    show Steps p.tables e below (T105.setTop (mkF m 49 #[.val (.ref r0), .val (.ref r1), .val (.int v1)] [])) _
    refine XS.aloadN X105.here hx rfl (hb hby d12_49) rfl rfl ?_
    show Steps p.tables e below (T105.setTop (mkF m 50 #[.val (.ref r0), .val (.ref r1), .val (.int v1)] [(.ref r0)])) _
    refine st129 _ ?_
    show Steps p.tables e below (T129.setTop (mkF m 53 #[.val (.ref r0), .val (.ref r1), .val (.int v1)] [(.ref y1)])) _
    refine XS.iloadN X129.here hx rfl (hb hby d12_53) rfl ?_
    refine XS.aloadN X129.here hx rfl (hb hby d12_54) rfl rfl ?_
    show Steps p.tables e below (T129.setTop (mkF m 55 #[.val (.ref r0), .val (.ref r1), .val (.int v1)] [(.ref r1), (.int v1), (.ref y1)])) _
    refine st130.trans ?_
    show Steps p.tables e below (T130.setTop (mkF m 58 #[.val (.ref r0), .val (.ref r1), .val (.int v1)] [(.long k1), (.int v1), (.ref y1)])) _
    refine st132 _ ?_
    show Steps p.tables e below (T132.setTop (mkF m 59 #[.val (.ref r0), .val (.ref r1), .val (.int v1)] [])) _
    refine XS.aloadN X132.here hx rfl (hb hby d12_59) rfl rfl ?_
    show Steps p.tables e below (T132.setTop (mkF m 60 #[.val (.ref r0), .val (.ref r1), .val (.int v1)] [(.ref r0)])) _
    refine st154 _ ?_
    show Steps p.tables e below (T154.setTop (mkF m 63 #[.val (.ref r0), .val (.ref r1), .val (.int v1)] [(.ref y2)])) _
    refine XS.iloadN X154.here hx rfl (hb hby d12_63) rfl ?_
    refine XS.aloadN X154.here hx rfl (hb hby d12_64) rfl rfl ?_
    show Steps p.tables e below (T154.setTop (mkF m 65 #[.val (.ref r0), .val (.ref r1), .val (.int v1)] [(.ref r1), (.int v1), (.ref y2)])) _
    refine st155.trans ?_
    show Steps p.tables e below (T155.setTop (mkF m 68 #[.val (.ref r0), .val (.ref r1), .val (.int v1)] [(.long k2), (.int v1), (.ref y2)])) _
    refine st157 _ ?_
    show Steps p.tables e below (T157.setTop (mkF m 69 #[.val (.ref r0), .val (.ref r1), .val (.int v1)] [])) _
    refine XS.aloadN X157.here hx rfl (hb hby d12_69) rfl rfl ?_
    show Steps p.tables e below (T157.setTop (mkF m 70 #[.val (.ref r0), .val (.ref r1), .val (.int v1)] [(.ref r0)])) _
    refine st179 _ ?_
    show Steps p.tables e below (T179.setTop (mkF m 73 #[.val (.ref r0), .val (.ref r1), .val (.int v1)] [(.ref yo)])) _
    refine XS.iloadN X179.here hx rfl (hb hby d12_73) rfl ?_
    refine XS.lconst X179.here hx rfl (hb hby d12_74) ?_
    show Steps p.tables e below (T179.setTop (mkF m 75 #[.val (.ref r0), .val (.ref r1), .val (.int v1)] [(.long (0 : Int64)), (.int v1), (.ref yo)])) _
    refine st181 _ ?_
    show Steps p.tables e below (T181.setTop (mkF m 76 #[.val (.ref r0), .val (.ref r1), .val (.int v1)] [])) _
    refine XS.aloadN X181.here hx rfl (hb hby d12_76) rfl rfl ?_
    show Steps p.tables e below (T181.setTop (mkF m 77 #[.val (.ref r0), .val (.ref r1), .val (.int v1)] [(.ref r0)])) _
    refine st203 _ ?_
    show Steps p.tables e below (T203.setTop (mkF m 80 #[.val (.ref r0), .val (.ref r1), .val (.int v1)] [(.ref ys)])) _
    refine XS.aloadN X203.here hx rfl (hb hby d12_80) rfl rfl ?_
    refine XS.aloadN X203.here hx rfl (hb hby d12_81) rfl rfl ?_
    show Steps p.tables e below (T203.setTop (mkF m 82 #[.val (.ref r0), .val (.ref r1), .val (.int v1)] [(.ref r1), (.ref r0), (.ref ys)])) _
    refine st204.trans ?_
    show Steps p.tables e below (T204.setTop (mkF m 85 #[.val (.ref r0), .val (.ref r1), .val (.int v1)] [(.long k1), (.ref r0), (.ref ys)])) _
    refine st205.trans ?_
    show Steps p.tables e below (T205.setTop (mkF m 88 #[.val (.ref r0), .val (.ref r1), .val (.int v1)] [(.int i), (.ref ys)])) _
    refine XS.iloadN X205.here hx rfl (hb hby d12_88) rfl ?_
    show Steps p.tables e below (T205.setTop (mkF m 89 #[.val (.ref r0), .val (.ref r1), .val (.int v1)] [(.int v1), (.int i), (.ref ys)])) _
    refine st207 _ ?_
    show Steps p.tables e below (T207.setTop (mkF m 90 #[.val (.ref r0), .val (.ref r1), .val (.int v1)] [])) _
    refine XS.aloadN X207.here hx rfl (hb hby d12_90) rfl rfl ?_
    show Steps p.tables e below (T207.setTop (mkF m 91 #[.val (.ref r0), .val (.ref r1), .val (.int v1)] [(.ref r0)])) _
    refine st229 _ ?_
    show Steps p.tables e below (T229.setTop (mkF m 94 #[.val (.ref r0), .val (.ref r1), .val (.int v1)] [(.ref yh)])) _
    refine XS.iloadN X229.here hx rfl (hb hby d12_94) rfl ?_
    show Steps p.tables e below (T229.setTop (mkF m 95 #[.val (.ref r0), .val (.ref r1), .val (.int v1)] [(.int v1), (.ref yh)])) _
    jvm_step X229.here [X229.here.top, hx, (hb hby d12_95), Value.category]
    show Steps p.tables e below (T229.setTop (mkF m 96 #[.val (.ref r0), .val (.ref r1), .val (.int v1)] [(.int v1), (.ref yh), (.int v1), (.ref yh)])) _
    refine own_ldI X229 hx hZ e229 F218 (j := v1) hin96_230 (g := (mkF m 96 #[.val (.ref r0), .val (.ref r1), .val (.int v1)] [(.int v1), (.ref yh), (.int v1), (.ref yh)])) rfl rfl (hb hby d12_96) _ ?_
    show Steps p.tables e below (T229.setTop (mkF m 97 #[.val (.ref r0), .val (.ref r1), .val (.int v1)] [(.int (hd v1.toNatClampNeg)), (.int v1), (.ref yh)])) _
    refine XS.iconst X229.here hx rfl (hb hby d12_97) ?_
    refine XS.iadd X229.here hx rfl (hb hby d12_98) rfl ?_
    show Steps p.tables e below (T229.setTop (mkF m 99 #[.val (.ref r0), .val (.ref r1), .val (.int v1)] [(.int ((hd v1.toNatClampNeg) + (1 : Int32))), (.int v1), (.ref yh)])) _
    rw [← hv6]
    refine st232 _ ?_
    show Steps p.tables e below (T232.setTop (mkF m 100 #[.val (.ref r0), .val (.ref r1), .val (.int v1)] [])) _
    refine XS.iloadN X232.here hx rfl (hb hby d12_100) rfl ?_
    exact kt
  refine own_go hgo254 ?_
  exact own_retI X232 hx Bd.returns Bd.notSynchronized (hb hby d12_101) (by decide) (by decide) (by rw [e232]; exact ⟨(by subst hv1 hv2 hv3 hv4 hv5 hv6 hv7; rfl), N253, K252, F233, (by subst hv7 hv6 hv5 hv4 hv3 hv2 hv1; exact F234), (by subst hv7 hv6 hv5 hv4 hv3 hv2 hv1; exact F235), (by subst hv7 hv6 hv5 hv4 hv3 hv2 hv1; exact F236), (by subst hv7 hv6 hv5 hv4 hv3 hv2 hv1; exact F237), (by subst hv7 hv6 hv5 hv4 hv3 hv2 hv1; exact F238), (by subst hv7 hv6 hv5 hv4 hv3 hv2 hv1; exact F239), (by subst hv7 hv6 hv5 hv4 hv3 hv2 hv1; exact F240), (by subst hv7 hv6 hv5 hv4 hv3 hv2 hv1; exact F241), (by subst hv7 hv6 hv5 hv4 hv3 hv2 hv1; exact F242), (by subst hv7 hv6 hv5 hv4 hv3 hv2 hv1; exact F247), (by subst hv7 hv6 hv5 hv4 hv3 hv2 hv1; exact F248), (by subst hv7 hv6 hv5 hv4 hv3 hv2 hv1; exact F249), (by subst hv7 hv6 hv5 hv4 hv3 hv2 hv1; exact F250), (by subst hv7 hv6 hv5 hv4 hv3 hv2 hv1; exact B232n)⟩)
theorem ef_hy (m : MethodId) (r0 : Addr) (r1 : Addr) : entryFrame m #[(.ref r0), (.ref r1)] 3 = mkF m 0 #[.val (.ref r0), .val (.ref r1), .unset] [] := by (first | (simp [entryFrame, mkF, argsToLocals, Value.category]; done) | rfl)
def Qhy (Z : State) (r0 : Addr) (r1 : Addr) (y1 : Addr) (y2 : Addr) (yo : Addr) (yh : Addr) (yf : Addr) (ys : Addr) (g1 : Nat → Int64) (g2 : Nat → Int64) (oc : Nat → Int64) (hd : Nat → Int32) (fr : Nat → Int32) (f : Nat → Int32) (k1 : Int64) (k2 : Int64) (u : Int32) (t : Int32) (n : Nat) (fc : Int32) (y : Int32) (h0 : Heap) (n0 : Nat) (v : Option Value) (h : Heap) (L : List Loc) : Prop := v = some (.int y) ∧ Fr n0 L ∧ Keep h0 h [yh] ∧ own_AI Z h yh .int 16 (own_up hd (y.toNatClampNeg) ((hd y.toNatClampNeg) + (1 : Int32)))
set_option maxRecDepth 65536 in
set_option maxHeartbeats 40000000 in
theorem rmhy (l : Launch) (Z : State) (a0 : Array Value) (hw : ∀ d ∈ tables_1, d.before a0 Z = true) (ws : List Jvm.Cond) (r0 : Addr) (r1 : Addr) (y1 : Addr) (y2 : Addr) (yo : Addr) (yh : Addr) (yf : Addr) (ys : Addr) (g1 : Nat → Int64) (g2 : Nat → Int64) (oc : Nat → Int64) (hd : Nat → Int32) (fr : Nat → Int32) (f : Nat → Int32) (k1 : Int64) (k2 : Int64) (u : Int32) (t : Int32) (n : Nat) (fc : Int32) (y : Int32) (h0 : Heap) (n0 : Nat) (Z0 : n0 ≤ h0.size) (E_r0 : Exa Z h0 r0 "com/example/upper_falls/upperfalls/HeldKeys") (F_hash1 : Fld Z h0 r0 "com/example/upper_falls/upperfalls/HeldKeys" "hash1" "[J" (.ref y1)) (F_hash2 : Fld Z h0 r0 "com/example/upper_falls/upperfalls/HeldKeys" "hash2" "[J" (.ref y2)) (F_occurrences : Fld Z h0 r0 "com/example/upper_falls/upperfalls/HeldKeys" "occurrences" "[J" (.ref yo)) (F_holders : Fld Z h0 r0 "com/example/upper_falls/upperfalls/HeldKeys" "holders" "[I" (.ref yh)) (F_free : Fld Z h0 r0 "com/example/upper_falls/upperfalls/HeldKeys" "free" "[I" (.ref yf)) (F_slots : Fld Z h0 r0 "com/example/upper_falls/upperfalls/HeldKeys" "slots" "[I" (.ref ys)) (F_limit : Fld Z h0 r0 "com/example/upper_falls/upperfalls/HeldKeys" "limit" "I" (.int (16 : Int32))) (F_used : Fld Z h0 r0 "com/example/upper_falls/upperfalls/HeldKeys" "used" "I" (.int u)) (F_freeCount : Fld Z h0 r0 "com/example/upper_falls/upperfalls/HeldKeys" "freeCount" "I" (.int fc)) (A_y1 : own_AJ Z h0 y1 .long 16 g1) (A_y2 : own_AJ Z h0 y2 .long 16 g2) (A_yo : own_AJ Z h0 yo .long 16 oc) (A_yh : own_AI Z h0 yh .int 16 hd) (A_yf : own_AI Z h0 yf .int 16 fr) (A_ys : own_AI Z h0 ys .int 32 f) (E_r1 : Exa Z h0 r1 "com/example/upper_falls/upperfalls/KeyHash") (F_h1 : Fld Z h0 r1 "com/example/upper_falls/upperfalls/KeyHash" "h1" "J" (.long k1)) (F_h2 : Fld Z h0 r1 "com/example/upper_falls/upperfalls/KeyHash" "h2" "J" (.long k2)) (hV : own_V n f) (hM : own_M n g1 g2 t k1 k2) (hn3 : n ≤ 3) (hy : own_fnd f t 8 ((k1.toInt32) &&& (31 : Int32)) = some y) (hu : (¬ y < 0 ∧ y.toNatClampNeg < 16)) (hyn : ¬ (y = (-1 : Int32))) (hne_r0_yh : r0 ≠ yh) (hne_y1_yh : y1 ≠ yh) (hne_y2_yh : y2 ≠ yh) (hne_yo_yh : yo ≠ yh) (hne_yf_yh : yf ≠ yh) (hne_ys_yh : ys ≠ yh) (hne_r1_yh : r1 ≠ yh) (g_yh : n0 ≤ yh) :
    MetFree l (⟨"com/example/upper_falls/upperfalls/HeldKeys", "hold", "(Lcom/example/upper_falls/upperfalls/KeyHash;)I"⟩ : MethodName) (head1 (Jvm.Cond.code (⟨"com/example/upper_falls/upperfalls/HeldKeys", "hold", "(Lcom/example/upper_falls/upperfalls/KeyHash;)I"⟩ : MethodName) prog_13_method_4_code 3 (some .int) :: ws) ({ frames := 2, cells := 0, slots := 0, locals := 57 } : Room)) (fun a U => a = #[(.ref r0), (.ref r1)] ∧ Z.Warmed39 U.vm ∧ U.heap = h0) (fun _ _ _ _ _ => True) (fun _ U o U' => ∃ v L, o = .returned v ∧ Qhy Z r0 r1 y1 y2 yo yh yf ys g1 g2 oc hd fr f k1 k2 u t n fc y h0 n0 v U'.heap L ∧ FrameEnd U o U' L ({ frames := 2, cells := 0, slots := 0, locals := 57 } : Room).cells ({ frames := 2, cells := 0, slots := 0, locals := 57 } : Room).slots) := by
  refine MetFree.of_bodySF (plainFor_of_name pn9) hisR ?_
  intro p e s m args below meth c s₁ Bd hml0 hP hK
  obtain ⟨rfl, hZ, hh⟩ := hP
  have hx := Bd.exec
  have hby := Bd.bytes
  have hml : c.maxLocals = 3 := hml0
  have hown : s.vm.findClass "com/example/upper_falls/upperfalls/HeldKeys" = some m.cls := findClass_of_methodNamed Bd.named
  have hnm := (name_of_methodNamed Bd.named Bd.method).1
  have X0 : Stand p l e ({ frames := 2, cells := 0, slots := 0, locals := 57 } : Room) s m #[(.ref r0), (.ref r1)] below meth c s₁ [] 0 0 := Stand.of_body Bd
  have e0 : s₁.heap = h0 := by rw [← hh, Bd.state]; rfl
  have N0 := Fr.nil n0
  have K0 : Keep h0 h0 [yh] := Keep.refl h0 _
  show own_Go p e below s (Qhy Z r0 r1 y1 y2 yo yh yf ys g1 g2 oc hd fr f k1 k2 u t n fc y h0 n0) ({ frames := 2, cells := 0, slots := 0, locals := 57 } : Room).cells ({ frames := 2, cells := 0, slots := 0, locals := 57 } : Room).slots (s₁.setTop (entryFrame m #[(.ref r0), (.ref r1)] 3))
  refine own_go (fun t k => castTop (ef_hy m r0 r1) k) ?_
  obtain ⟨cq101, kq101, q101a, q101b, q101c⟩ := isOf hZ e0 E_r0
  obtain ⟨_, _, ⟨T101, L101, k101, n101⟩, -, X101, ⟨Lc101, hQ101, l101, y101, z101⟩, st101⟩ := X0.virtualBack hx (y := (⟨"com/example/upper_falls/upperfalls/HeldKeys", "find", "(Lcom/example/upper_falls/upperfalls/KeyHash;)I"⟩ : MethodName)) (z := (⟨"com/example/upper_falls/upperfalls/HeldKeys", "find", "(Lcom/example/upper_falls/upperfalls/KeyHash;)I"⟩ : MethodName)) hown (mvT hZ (own_wd hw 76 rfl)) (mvT hZ (own_wd hw 77 rfl)) (notFace_of_selects (args := #[]) (mvT hZ (own_wd hw 79 rfl))) (mvT hZ (own_wd hw 79 rfl)) (mvT hZ (own_wd hw 78 rfl)) (by decide) (backOf (W := 0) (rmfd l Z a0 hw [] r0 r1 ys y1 y2 f g1 g2 k1 k2 t n y h0 n0 Z0 E_r0 F_slots F_hash1 F_hash2 A_ys A_y1 A_y2 E_r1 F_h1 F_h2 (hV : own_V n f) (hM : own_M n g1 g2 t k1 k2) (hn3 : n ≤ 3) (hy : own_fnd f t 8 ((k1.toInt32) &&& (31 : Int32)) = some y)) hZ (own_wd hw 80 rfl) (own_wd hw 27 rfl) (by decide) (by decide)) q101a q101c (g := (mkF m 2 #[.val (.ref r0), .val (.ref r1), .unset] [(.ref r1), (.ref r0)])) rfl (by rw [hml]; rfl) (Steps.refl _) (argsL := [(.ref r1)]) (rest := []) (lenOf pd13 rfl) rfl (by show 2 * 0 + _ ≤ _; exact Nat.le_of_eq rfl) (hb hby d12_2) (fun _ _ => ⟨rfl, e0, (by decide : 0 + 0 ≤ _), (by decide : 0 + 0 ≤ _)⟩)
  dsimp only [Pt.U, Pt.locs, Pt.cells, Pt.slots] at X101 l101 y101 z101 st101 hQ101
  subst l101 y101 z101
  obtain ⟨rfl, N101q, e101⟩ := hQ101
  have N101 := Fr.app N0 N101q
  obtain ⟨T102, X102, e102, st102⟩ := getF X101 hx hZ hown (host := "") (Or.inl (own_wd hw 46 rfl)) Via.refl e101 F_holders (g := (mkF m 91 #[.val (.ref r0), .val (.ref r1), .val (.int y)] [(.ref r0)])) rfl rfl (hb hby d12_91)
  have hin96_103 : ¬ y < 0 ∧ y.toNatClampNeg < 16 := hu
  obtain ⟨v1, hv1⟩ : ∃ z : Int32, z = ((hd y.toNatClampNeg) + (1 : Int32)) := ⟨_, rfl⟩
  have hin99_104 : ¬ y < 0 ∧ y.toNatClampNeg < 16 := hu
  obtain ⟨T105, h105, X105, e105, W105, B105, st105⟩ := own_stI X102 hx hZ e102 A_yh (j := y) (x := v1) hin99_104 (g := (mkF m 99 #[.val (.ref r0), .val (.ref r1), .val (.int y)] [(.int v1), (.int y), (.ref yh)])) rfl rfl (hb hby d12_99)
  obtain ⟨v2, hv2⟩ : ∃ z : Nat → Int32, z = (own_up hd (y.toNatClampNeg) v1) := ⟨_, rfl⟩
  have B105n : own_AI Z h105 yh .int 16 v2 := by rw [hv2]; exact B105
  have F106 := E_r0.wr W105
  have F107 := F_hash1.other W105 (Or.inl hne_r0_yh)
  have F108 := F_hash2.other W105 (Or.inl hne_r0_yh)
  have F109 := F_occurrences.other W105 (Or.inl hne_r0_yh)
  have F110 := F_holders.other W105 (Or.inl hne_r0_yh)
  have F111 := F_free.other W105 (Or.inl hne_r0_yh)
  have F112 := F_slots.other W105 (Or.inl hne_r0_yh)
  have F113 := F_limit.other W105 (Or.inl hne_r0_yh)
  have F114 := F_used.other W105 (Or.inl hne_r0_yh)
  have F115 := F_freeCount.other W105 (Or.inl hne_r0_yh)
  have F116 := A_y1.other W105 hne_y1_yh
  have F117 := A_y2.other W105 hne_y2_yh
  have F118 := A_yo.other W105 hne_yo_yh
  have F119 := A_yf.other W105 hne_yf_yh
  have F120 := A_ys.other W105 hne_ys_yh
  have F121 := E_r1.wr W105
  have F122 := F_h1.other W105 (Or.inl hne_r1_yh)
  have F123 := F_h2.other W105 (Or.inl hne_r1_yh)
  have Z124 : n0 ≤ h105.size := Nat.le_trans Z0 (Keep.of_wr W105).1
  have K125 : Keep h0 h105 [yh] := K0.wr W105 (Or.inl (List.mem_of_getElem? (i := 0) rfl))
  have N126 := Fr.snoc X105 N101 g_yh
  have hgo127 : ∀ t, Steps p.tables e below (T105.setTop (mkF m 101 #[.val (.ref r0), .val (.ref r1), .val (.int y)] [(.int y)])) t → Steps p.tables e below (s₁.setTop (mkF m 0 #[.val (.ref r0), .val (.ref r1), .unset] [])) t := by
    intro t kt
    show Steps p.tables e below (s₁.setTop (mkF m 0 #[.val (.ref r0), .val (.ref r1), .unset] [])) _
    refine XS.aloadN X0.here hx rfl (hb hby d12_0) rfl rfl ?_
    refine XS.aloadN X0.here hx rfl (hb hby d12_1) rfl rfl ?_
    show Steps p.tables e below (s₁.setTop (mkF m 2 #[.val (.ref r0), .val (.ref r1), .unset] [(.ref r1), (.ref r0)])) _
    refine st101.trans ?_
    show Steps p.tables e below (T101.setTop (mkF m 5 #[.val (.ref r0), .val (.ref r1), .unset] [(.int y)])) _
    refine XS.istoreN X101.here hx rfl (hb hby d12_5) rfl (l' := #[.val (.ref r0), .val (.ref r1), .val (.int y)]) rfl ?_
    show Steps p.tables e below (T101.setTop (mkF m 6 #[.val (.ref r0), .val (.ref r1), .val (.int y)] [])) _
    refine XS.iloadN X101.here hx rfl (hb hby d12_6) rfl ?_
    refine XS.iconst X101.here hx rfl (hb hby d12_7) ?_
    refine XS.icmpYes X101.here hx rfl (pc0 := 8) (pc' := 90) rfl (hb hby d12_8) rfl (feq hyn).2 (by decide) (by decide) ?_
    show Steps p.tables e below (T101.setTop (mkF m 90 #[.val (.ref r0), .val (.ref r1), .val (.int y)] [])) _
    refine XS.aloadN X101.here hx rfl (hb hby d12_90) rfl rfl ?_
    show Steps p.tables e below (T101.setTop (mkF m 91 #[.val (.ref r0), .val (.ref r1), .val (.int y)] [(.ref r0)])) _
    refine st102 _ ?_
    show Steps p.tables e below (T102.setTop (mkF m 94 #[.val (.ref r0), .val (.ref r1), .val (.int y)] [(.ref yh)])) _
    refine XS.iloadN X102.here hx rfl (hb hby d12_94) rfl ?_
    show Steps p.tables e below (T102.setTop (mkF m 95 #[.val (.ref r0), .val (.ref r1), .val (.int y)] [(.int y), (.ref yh)])) _
    jvm_step X102.here [X102.here.top, hx, (hb hby d12_95), Value.category]
    show Steps p.tables e below (T102.setTop (mkF m 96 #[.val (.ref r0), .val (.ref r1), .val (.int y)] [(.int y), (.ref yh), (.int y), (.ref yh)])) _
    refine own_ldI X102 hx hZ e102 A_yh (j := y) hin96_103 (g := (mkF m 96 #[.val (.ref r0), .val (.ref r1), .val (.int y)] [(.int y), (.ref yh), (.int y), (.ref yh)])) rfl rfl (hb hby d12_96) _ ?_
    show Steps p.tables e below (T102.setTop (mkF m 97 #[.val (.ref r0), .val (.ref r1), .val (.int y)] [(.int (hd y.toNatClampNeg)), (.int y), (.ref yh)])) _
    refine XS.iconst X102.here hx rfl (hb hby d12_97) ?_
    refine XS.iadd X102.here hx rfl (hb hby d12_98) rfl ?_
    show Steps p.tables e below (T102.setTop (mkF m 99 #[.val (.ref r0), .val (.ref r1), .val (.int y)] [(.int ((hd y.toNatClampNeg) + (1 : Int32))), (.int y), (.ref yh)])) _
    rw [← hv1]
    refine st105 _ ?_
    show Steps p.tables e below (T105.setTop (mkF m 100 #[.val (.ref r0), .val (.ref r1), .val (.int y)] [])) _
    refine XS.iloadN X105.here hx rfl (hb hby d12_100) rfl ?_
    exact kt
  refine own_go hgo127 ?_
  exact own_retI X105 hx Bd.returns Bd.notSynchronized (hb hby d12_101) (by decide) (by decide) (by rw [e105]; exact ⟨(by subst hv1 hv2; rfl), N126, K125, (by subst hv2 hv1; exact B105n)⟩)
theorem d19_17 : decode prog_13_method_12_code 17 = .ok (.aload_n 0, 1) := by decide +kernel
theorem d19_18 : decode prog_13_method_12_code 18 = .ok (.getfield 40, 3) := by decide +kernel
theorem d19_21 : decode prog_13_method_12_code 21 = .ok (.iload 4, 2) := by decide +kernel
theorem d19_23 : decode prog_13_method_12_code 23 = .ok (.iaload, 1) := by decide +kernel
theorem d19_24 : decode prog_13_method_12_code 24 = .ok (.iconst (-1), 1) := by decide +kernel
theorem d19_25 : decode prog_13_method_12_code 25 = .ok (.if_icmp .eq 68, 3) := by decide +kernel
theorem d19_28 : decode prog_13_method_12_code 28 = .ok (.iload 4, 2) := by decide +kernel
theorem d19_30 : decode prog_13_method_12_code 30 = .ok (.aload_n 0, 1) := by decide +kernel
theorem d19_31 : decode prog_13_method_12_code 31 = .ok (.aload_n 0, 1) := by decide +kernel
theorem d19_32 : decode prog_13_method_12_code 32 = .ok (.getfield 19, 3) := by decide +kernel
theorem d19_35 : decode prog_13_method_12_code 35 = .ok (.aload_n 0, 1) := by decide +kernel
theorem d19_36 : decode prog_13_method_12_code 36 = .ok (.getfield 40, 3) := by decide +kernel
theorem d19_39 : decode prog_13_method_12_code 39 = .ok (.iload 4, 2) := by decide +kernel
theorem d19_41 : decode prog_13_method_12_code 41 = .ok (.iaload, 1) := by decide +kernel
theorem d19_42 : decode prog_13_method_12_code 42 = .ok (.laload, 1) := by decide +kernel
theorem d19_43 : decode prog_13_method_12_code 43 = .ok (.invokevirtual 64, 3) := by decide +kernel
theorem d19_46 : decode prog_13_method_12_code 46 = .ok (.isub, 1) := by decide +kernel
theorem d19_47 : decode prog_13_method_12_code 47 = .ok (.iload_n 2, 1) := by decide +kernel
theorem d19_48 : decode prog_13_method_12_code 48 = .ok (.iand, 1) := by decide +kernel
theorem d19_49 : decode prog_13_method_12_code 49 = .ok (.istore 5, 2) := by decide +kernel
theorem d19_51 : decode prog_13_method_12_code 51 = .ok (.iload 4, 2) := by decide +kernel
theorem d19_53 : decode prog_13_method_12_code 53 = .ok (.iload_n 3, 1) := by decide +kernel
theorem d19_54 : decode prog_13_method_12_code 54 = .ok (.isub, 1) := by decide +kernel
theorem d19_55 : decode prog_13_method_12_code 55 = .ok (.iload_n 2, 1) := by decide +kernel
theorem d19_56 : decode prog_13_method_12_code 56 = .ok (.iand, 1) := by decide +kernel
theorem d19_57 : decode prog_13_method_12_code 57 = .ok (.istore 6, 2) := by decide +kernel
theorem d19_59 : decode prog_13_method_12_code 59 = .ok (.iload 5, 2) := by decide +kernel
theorem d19_61 : decode prog_13_method_12_code 61 = .ok (.iload 6, 2) := by decide +kernel
theorem d19_63 : decode prog_13_method_12_code 63 = .ok (.if_icmp .lt 19, 3) := by decide +kernel
theorem d19_66 : decode prog_13_method_12_code 66 = .ok (.aload_n 0, 1) := by decide +kernel
theorem d19_67 : decode prog_13_method_12_code 67 = .ok (.getfield 40, 3) := by decide +kernel
theorem d19_70 : decode prog_13_method_12_code 70 = .ok (.iload_n 3, 1) := by decide +kernel
theorem d19_71 : decode prog_13_method_12_code 71 = .ok (.aload_n 0, 1) := by decide +kernel
theorem d19_72 : decode prog_13_method_12_code 72 = .ok (.getfield 40, 3) := by decide +kernel
theorem d19_75 : decode prog_13_method_12_code 75 = .ok (.iload 4, 2) := by decide +kernel
theorem d19_77 : decode prog_13_method_12_code 77 = .ok (.iaload, 1) := by decide +kernel
theorem d19_78 : decode prog_13_method_12_code 78 = .ok (.iastore, 1) := by decide +kernel
theorem d19_79 : decode prog_13_method_12_code 79 = .ok (.iload 4, 2) := by decide +kernel
theorem d19_81 : decode prog_13_method_12_code 81 = .ok (.istore_n 3, 1) := by decide +kernel
theorem d19_82 : decode prog_13_method_12_code 82 = .ok (.iload 4, 2) := by decide +kernel
theorem d19_84 : decode prog_13_method_12_code 84 = .ok (.iconst 1, 1) := by decide +kernel
theorem d19_85 : decode prog_13_method_12_code 85 = .ok (.iadd, 1) := by decide +kernel
theorem d19_86 : decode prog_13_method_12_code 86 = .ok (.iload_n 2, 1) := by decide +kernel
theorem d19_87 : decode prog_13_method_12_code 87 = .ok (.iand, 1) := by decide +kernel
theorem d19_88 : decode prog_13_method_12_code 88 = .ok (.istore 4, 2) := by decide +kernel
theorem d19_90 : decode prog_13_method_12_code 90 = .ok (.goto (-73), 3) := by decide +kernel
set_option maxRecDepth 65536 in
set_option maxHeartbeats 40000000 in
theorem own_rmsL {p : Program} {l : Launch} {e : Env} {s : State} {m : MethodId} {args : Array Value} {below : List Frame} {meth : Method} {c : Code} {Z : State} {a0 : Array Value} {h0 : Heap} {n0 : Nat} (r0 : Addr) (p1 : Int32) (ys : Addr) (y1 : Addr) (g1 : Nat → Int64) (H : Nat → Int32) (ff : Nat → Int32) (n : Nat) (hx : p.tables.exec = Jvm.exec) (hZ : Z.Warmed39 s.vm) (hw : ∀ d ∈ tables_1, d.before a0 Z = true) (hby : c.code = prog_13_method_12_code) (hml : c.maxLocals = 7) (hown : s.vm.findClass "com/example/upper_falls/upperfalls/HeldKeys" = some m.cls) (hg : n0 ≤ ys) (hne0 : r0 ≠ ys) (hne1 : y1 ≠ ys) (hH : own_HH n g1 H) (hn3 : n ≤ 3) :
    ∀ (k : Nat) (T : State) (locs : List Loc) (h : Heap) (f : Nat → Int32) (g : Int32) (i : Int32) (s5 : Slot) (s6 : Slot), Stand p l e ({ frames := 1, cells := 0, slots := 0, locals := 40 } : Room) s m args below meth c T locs 0 0 → Fr n0 locs → T.heap = h → n0 ≤ h.size → Keep h0 h [ys] → Exa Z h r0 "com/example/upper_falls/upperfalls/HeldKeys" → Fld Z h r0 "com/example/upper_falls/upperfalls/HeldKeys" "slots" "[I" (.ref ys) → Fld Z h r0 "com/example/upper_falls/upperfalls/HeldKeys" "hash1" "[J" (.ref y1) → own_AI Z h ys .int 32 f → own_AJ Z h y1 .long 16 g1 → (s5 = .unset ∨ ∃ w, s5 = .val w ∧ w.category = 1) → (s6 = .unset ∨ ∃ w, s6 = .val w ∧ w.category = 1) → (¬ g < 0 ∧ g.toNatClampNeg < 32) → (¬ i < 0 ∧ i.toNatClampNeg < 32) → own_V n f → own_rms H k f g i = some ff → own_Run p e below (T.setTop (mkF m 17 #[.val (.ref r0), .val (.int p1), .val (.int (31 : Int32)), .val (.int g), .val (.int i), s5, s6] [])) (fun B => ∃ (T' : State) (locs' : List Loc) (h' : Heap) (f' : Nat → Int32) (g' i' : Int32) (s5' s6' : Slot), B = T'.setTop (mkF m 93 #[.val (.ref r0), .val (.int p1), .val (.int (31 : Int32)), .val (.int g'), .val (.int i'), s5', s6'] []) ∧ Stand p l e ({ frames := 1, cells := 0, slots := 0, locals := 40 } : Room) s m args below meth c T' locs' 0 0 ∧ Fr n0 locs' ∧ T'.heap = h' ∧ n0 ≤ h'.size ∧ Keep h0 h' [ys] ∧ Exa Z h' r0 "com/example/upper_falls/upperfalls/HeldKeys" ∧ Fld Z h' r0 "com/example/upper_falls/upperfalls/HeldKeys" "slots" "[I" (.ref ys) ∧ Fld Z h' r0 "com/example/upper_falls/upperfalls/HeldKeys" "hash1" "[J" (.ref y1) ∧ own_AI Z h' ys .int 32 f' ∧ own_AJ Z h' y1 .long 16 g1 ∧ (¬ g' < 0 ∧ g'.toNatClampNeg < 32) ∧ ff = own_up f' g'.toNatClampNeg (-1 : Int32)) := by
  intro k
  induction k with
  | zero =>
    intro T locs h f g i s5 s6 X0 N0 e0 Z0 K0 E_r0 F_slots F_hash1 A_ys A_y1 hs5 hs6 hgb hi hV hk
    cases hk
  | succ k ih =>
    intro T locs h f g i s5 s6 X0 N0 e0 Z0 K0 E_r0 F_slots F_hash1 A_ys A_y1 hs5 hs6 hgb hi hV hk
    obtain ⟨T101, X101, e101, st101⟩ := getF X0 hx hZ hown (host := "") (Or.inl (own_wd hw 69 rfl)) Via.refl e0 F_slots (g := (mkF m 18 #[.val (.ref r0), .val (.int p1), .val (.int (31 : Int32)), .val (.int g), .val (.int i), s5, s6] [(.ref r0)])) rfl rfl (hb hby d19_18)
    have hin23_102 : ¬ i < 0 ∧ i.toNatClampNeg < 32 := hi
    have hgo103 : ∀ t, Steps p.tables e below (T101.setTop (mkF m 25 #[.val (.ref r0), .val (.int p1), .val (.int (31 : Int32)), .val (.int g), .val (.int i), s5, s6] [(.int (-1 : Int32)), (.int (f i.toNatClampNeg))])) t → Steps p.tables e below (T.setTop (mkF m 17 #[.val (.ref r0), .val (.int p1), .val (.int (31 : Int32)), .val (.int g), .val (.int i), s5, s6] [])) t := by
      intro t kt
      show Steps p.tables e below (T.setTop (mkF m 17 #[.val (.ref r0), .val (.int p1), .val (.int (31 : Int32)), .val (.int g), .val (.int i), s5, s6] [])) _
      refine XS.aloadN X0.here hx rfl (hb hby d19_17) rfl rfl ?_
      show Steps p.tables e below (T.setTop (mkF m 18 #[.val (.ref r0), .val (.int p1), .val (.int (31 : Int32)), .val (.int g), .val (.int i), s5, s6] [(.ref r0)])) _
      refine st101 _ ?_
      show Steps p.tables e below (T101.setTop (mkF m 21 #[.val (.ref r0), .val (.int p1), .val (.int (31 : Int32)), .val (.int g), .val (.int i), s5, s6] [(.ref ys)])) _
      refine XS.iload X101.here hx rfl (hb hby d19_21) rfl ?_
      show Steps p.tables e below (T101.setTop (mkF m 23 #[.val (.ref r0), .val (.int p1), .val (.int (31 : Int32)), .val (.int g), .val (.int i), s5, s6] [(.int i), (.ref ys)])) _
      refine own_ldI X101 hx hZ e101 A_ys (j := i) hin23_102 (g := (mkF m 23 #[.val (.ref r0), .val (.int p1), .val (.int (31 : Int32)), .val (.int g), .val (.int i), s5, s6] [(.int i), (.ref ys)])) rfl rfl (hb hby d19_23) _ ?_
      show Steps p.tables e below (T101.setTop (mkF m 24 #[.val (.ref r0), .val (.int p1), .val (.int (31 : Int32)), .val (.int g), .val (.int i), s5, s6] [(.int (f i.toNatClampNeg))])) _
      refine XS.iconst X101.here hx rfl (hb hby d19_24) ?_
      exact kt
    refine own_run hgo103 ?_
    by_cases hc25_1 : (f i.toNatClampNeg) = (-1 : Int32)
    · have hgo104 : ∀ t, Steps p.tables e below (T101.setTop (mkF m 93 #[.val (.ref r0), .val (.int p1), .val (.int (31 : Int32)), .val (.int g), .val (.int i), s5, s6] [])) t → Steps p.tables e below (T101.setTop (mkF m 25 #[.val (.ref r0), .val (.int p1), .val (.int (31 : Int32)), .val (.int g), .val (.int i), s5, s6] [(.int (-1 : Int32)), (.int (f i.toNatClampNeg))])) t := by
        intro t kt
        show Steps p.tables e below (T101.setTop (mkF m 25 #[.val (.ref r0), .val (.int p1), .val (.int (31 : Int32)), .val (.int g), .val (.int i), s5, s6] [(.int (-1 : Int32)), (.int (f i.toNatClampNeg))])) _
        refine XS.icmpYes X101.here hx rfl (pc0 := 25) (pc' := 93) rfl (hb hby d19_25) rfl (teq hc25_1).1 (by decide) (by decide) ?_
        exact kt
      refine own_run hgo104 ?_
      exact ⟨_, ⟨_, _, _, f, g, i, s5, s6, rfl, X101, N0, e101, Z0, K0, E_r0, F_slots, F_hash1, A_ys, A_y1, hgb, own_m1 hk hc25_1⟩, fun t kt => kt⟩
    · obtain ⟨T105, X105, e105, st105⟩ := getF X101 hx hZ hown (host := "") (Or.inl (own_wd hw 39 rfl)) Via.refl e101 F_hash1 (g := (mkF m 32 #[.val (.ref r0), .val (.int p1), .val (.int (31 : Int32)), .val (.int g), .val (.int i), s5, s6] [(.ref r0), (.ref r0), (.int i)])) rfl rfl (hb hby d19_32)
      obtain ⟨T106, X106, e106, st106⟩ := getF X105 hx hZ hown (host := "") (Or.inl (own_wd hw 69 rfl)) Via.refl e105 F_slots (g := (mkF m 36 #[.val (.ref r0), .val (.int p1), .val (.int (31 : Int32)), .val (.int g), .val (.int i), s5, s6] [(.ref r0), (.ref y1), (.ref r0), (.int i)])) rfl rfl (hb hby d19_36)
      have hin41_107 : ¬ i < 0 ∧ i.toNatClampNeg < 32 := hi
      obtain ⟨v2, hv2⟩ : ∃ z : Int32, z = (f i.toNatClampNeg) := ⟨_, rfl⟩
      have hin42_108 : ¬ v2 < 0 ∧ v2.toNatClampNeg < 16 := (by rw [hv2]; exact own_Vin hV hn3 hi.2 hc25_1)
      obtain ⟨v3, hv3⟩ : ∃ z : Int64, z = (g1 v2.toNatClampNeg) := ⟨_, rfl⟩
      obtain ⟨cq109, q109, q109'⟩ := E_r0.cell
      obtain ⟨_, _, ⟨T109, L109, k109, n109⟩, -, X109, ⟨Lc109, hQ109, l109, y109, z109⟩, st109⟩ := X106.privateBack hx (y := (⟨"com/example/upper_falls/upperfalls/HeldKeys", "home", "(J)I"⟩ : MethodName)) hown (mvT hZ (own_wd hw 86 rfl)) (mvT hZ (own_wd hw 87 rfl)) (own_selPriv (mvT hZ (own_wd hw 26 rfl)) (mvT hZ (own_wd hw 87 rfl)) (Cond.privateMethod_at (mvP hZ (own_wd hw 88 rfl) (args := #[]))) (by decide)) (Cond.privateMethod_at (mvP hZ (own_wd hw 88 rfl) (args := #[]))) (mvT hZ (own_wd hw 89 rfl)) (by decide) (backOf (W := 1) (rmho l Z a0 hw [] r0 v3 ys f h n0 Z0 F_slots A_ys) hZ (own_wd hw 89 rfl) (own_wd hw 27 rfl) (by decide) (by decide)) (g := (mkF m 43 #[.val (.ref r0), .val (.int p1), .val (.int (31 : Int32)), .val (.int g), .val (.int i), s5, s6] [(.long v3), (.ref r0), (.int i)])) rfl (by rw [hml]; rfl) (Steps.refl _) (a := r0) (by rw [e106]; exact q109) q109' (argsL := [(.long v3)]) (rest := [(.int i)]) (lenOf pd12 rfl) rfl (by show 2 * 0 + _ ≤ _; exact Nat.le_of_eq rfl) (hb hby d19_43) (fun _ _ => ⟨rfl, e106, (by decide : 0 + 0 ≤ _), (by decide : 0 + 0 ≤ _)⟩)
      dsimp only [Pt.U, Pt.locs, Pt.cells, Pt.slots] at X109 l109 y109 z109 st109 hQ109
      subst l109 y109 z109
      obtain ⟨rfl, N109q, e109⟩ := hQ109
      have N109 := Fr.app N0 N109q
      obtain ⟨v4, hv4⟩ : ∃ z : Int32, z = ((i - ((v3.toInt32) &&& (31 : Int32))) &&& (31 : Int32)) := ⟨_, rfl⟩
      obtain ⟨v5, hv5⟩ : ∃ z : Int32, z = ((i - g) &&& (31 : Int32)) := ⟨_, rfl⟩
      have hgo110 : ∀ t, Steps p.tables e below (T109.setTop (mkF m 63 #[.val (.ref r0), .val (.int p1), .val (.int (31 : Int32)), .val (.int g), .val (.int i), .val (.int v4), .val (.int v5)] [(.int v5), (.int v4)])) t → Steps p.tables e below (T101.setTop (mkF m 25 #[.val (.ref r0), .val (.int p1), .val (.int (31 : Int32)), .val (.int g), .val (.int i), s5, s6] [(.int (-1 : Int32)), (.int (f i.toNatClampNeg))])) t := by
        intro t kt
        show Steps p.tables e below (T101.setTop (mkF m 25 #[.val (.ref r0), .val (.int p1), .val (.int (31 : Int32)), .val (.int g), .val (.int i), s5, s6] [(.int (-1 : Int32)), (.int (f i.toNatClampNeg))])) _
        refine XS.icmpNo X101.here hx rfl (hb hby d19_25) rfl (feq hc25_1).1 ?_
        show Steps p.tables e below (T101.setTop (mkF m 28 #[.val (.ref r0), .val (.int p1), .val (.int (31 : Int32)), .val (.int g), .val (.int i), s5, s6] [])) _
        refine XS.iload X101.here hx rfl (hb hby d19_28) rfl ?_
        refine XS.aloadN X101.here hx rfl (hb hby d19_30) rfl rfl ?_
        refine XS.aloadN X101.here hx rfl (hb hby d19_31) rfl rfl ?_
        show Steps p.tables e below (T101.setTop (mkF m 32 #[.val (.ref r0), .val (.int p1), .val (.int (31 : Int32)), .val (.int g), .val (.int i), s5, s6] [(.ref r0), (.ref r0), (.int i)])) _
        refine st105 _ ?_
        show Steps p.tables e below (T105.setTop (mkF m 35 #[.val (.ref r0), .val (.int p1), .val (.int (31 : Int32)), .val (.int g), .val (.int i), s5, s6] [(.ref y1), (.ref r0), (.int i)])) _
        refine XS.aloadN X105.here hx rfl (hb hby d19_35) rfl rfl ?_
        show Steps p.tables e below (T105.setTop (mkF m 36 #[.val (.ref r0), .val (.int p1), .val (.int (31 : Int32)), .val (.int g), .val (.int i), s5, s6] [(.ref r0), (.ref y1), (.ref r0), (.int i)])) _
        refine st106 _ ?_
        show Steps p.tables e below (T106.setTop (mkF m 39 #[.val (.ref r0), .val (.int p1), .val (.int (31 : Int32)), .val (.int g), .val (.int i), s5, s6] [(.ref ys), (.ref y1), (.ref r0), (.int i)])) _
        refine XS.iload X106.here hx rfl (hb hby d19_39) rfl ?_
        show Steps p.tables e below (T106.setTop (mkF m 41 #[.val (.ref r0), .val (.int p1), .val (.int (31 : Int32)), .val (.int g), .val (.int i), s5, s6] [(.int i), (.ref ys), (.ref y1), (.ref r0), (.int i)])) _
        refine own_ldI X106 hx hZ e106 A_ys (j := i) hin41_107 (g := (mkF m 41 #[.val (.ref r0), .val (.int p1), .val (.int (31 : Int32)), .val (.int g), .val (.int i), s5, s6] [(.int i), (.ref ys), (.ref y1), (.ref r0), (.int i)])) rfl rfl (hb hby d19_41) _ ?_
        show Steps p.tables e below (T106.setTop (mkF m 42 #[.val (.ref r0), .val (.int p1), .val (.int (31 : Int32)), .val (.int g), .val (.int i), s5, s6] [(.int (f i.toNatClampNeg)), (.ref y1), (.ref r0), (.int i)])) _
        rw [← hv2]
        refine own_ldJ X106 hx hZ e106 A_y1 (j := v2) hin42_108 (g := (mkF m 42 #[.val (.ref r0), .val (.int p1), .val (.int (31 : Int32)), .val (.int g), .val (.int i), s5, s6] [(.int v2), (.ref y1), (.ref r0), (.int i)])) rfl rfl (hb hby d19_42) _ ?_
        show Steps p.tables e below (T106.setTop (mkF m 43 #[.val (.ref r0), .val (.int p1), .val (.int (31 : Int32)), .val (.int g), .val (.int i), s5, s6] [(.long (g1 v2.toNatClampNeg)), (.ref r0), (.int i)])) _
        rw [← hv3]
        show Steps p.tables e below (T106.setTop (mkF m 43 #[.val (.ref r0), .val (.int p1), .val (.int (31 : Int32)), .val (.int g), .val (.int i), s5, s6] [(.long v3), (.ref r0), (.int i)])) _
        refine st109.trans ?_
        show Steps p.tables e below (T109.setTop (mkF m 46 #[.val (.ref r0), .val (.int p1), .val (.int (31 : Int32)), .val (.int g), .val (.int i), s5, s6] [(.int ((v3.toInt32) &&& (31 : Int32))), (.int i)])) _
        refine XS.isub X109.here hx rfl (hb hby d19_46) rfl ?_
        show Steps p.tables e below (T109.setTop (mkF m 47 #[.val (.ref r0), .val (.int p1), .val (.int (31 : Int32)), .val (.int g), .val (.int i), s5, s6] [(.int (i - ((v3.toInt32) &&& (31 : Int32))))])) _
        refine XS.iloadN X109.here hx rfl (hb hby d19_47) rfl ?_
        refine XS.iand X109.here hx rfl (hb hby d19_48) rfl ?_
        show Steps p.tables e below (T109.setTop (mkF m 49 #[.val (.ref r0), .val (.int p1), .val (.int (31 : Int32)), .val (.int g), .val (.int i), s5, s6] [(.int ((i - ((v3.toInt32) &&& (31 : Int32))) &&& (31 : Int32)))])) _
        rw [← hv4]
        show Steps p.tables e below (T109.setTop (mkF m 49 #[.val (.ref r0), .val (.int p1), .val (.int (31 : Int32)), .val (.int g), .val (.int i), s5, s6] [(.int v4)])) _
        refine XS.istoreS X109.here hx rfl (hb hby d19_49) rfl (o := s5) rfl hs5 ?_
        show Steps p.tables e below (T109.setTop (mkF m 51 #[.val (.ref r0), .val (.int p1), .val (.int (31 : Int32)), .val (.int g), .val (.int i), .val (.int v4), s6] [])) _
        refine XS.iload X109.here hx rfl (hb hby d19_51) rfl ?_
        refine XS.iloadN X109.here hx rfl (hb hby d19_53) rfl ?_
        refine XS.isub X109.here hx rfl (hb hby d19_54) rfl ?_
        show Steps p.tables e below (T109.setTop (mkF m 55 #[.val (.ref r0), .val (.int p1), .val (.int (31 : Int32)), .val (.int g), .val (.int i), .val (.int v4), s6] [(.int (i - g))])) _
        refine XS.iloadN X109.here hx rfl (hb hby d19_55) rfl ?_
        refine XS.iand X109.here hx rfl (hb hby d19_56) rfl ?_
        show Steps p.tables e below (T109.setTop (mkF m 57 #[.val (.ref r0), .val (.int p1), .val (.int (31 : Int32)), .val (.int g), .val (.int i), .val (.int v4), s6] [(.int ((i - g) &&& (31 : Int32)))])) _
        rw [← hv5]
        show Steps p.tables e below (T109.setTop (mkF m 57 #[.val (.ref r0), .val (.int p1), .val (.int (31 : Int32)), .val (.int g), .val (.int i), .val (.int v4), s6] [(.int v5)])) _
        refine XS.istoreS X109.here hx rfl (hb hby d19_57) rfl (o := s6) rfl hs6 ?_
        show Steps p.tables e below (T109.setTop (mkF m 59 #[.val (.ref r0), .val (.int p1), .val (.int (31 : Int32)), .val (.int g), .val (.int i), .val (.int v4), .val (.int v5)] [])) _
        refine XS.iload X109.here hx rfl (hb hby d19_59) rfl ?_
        refine XS.iload X109.here hx rfl (hb hby d19_61) rfl ?_
        exact kt
      refine own_run hgo110 ?_
      by_cases hc63_6 : v4 < v5
      · obtain ⟨v7, hv7⟩ : ∃ z : Int32, z = ((i + (1 : Int32)) &&& (31 : Int32)) := ⟨_, rfl⟩
        have hgo111 : ∀ t, Steps p.tables e below (T109.setTop (mkF m 17 #[.val (.ref r0), .val (.int p1), .val (.int (31 : Int32)), .val (.int g), .val (.int v7), .val (.int v4), .val (.int v5)] [])) t → Steps p.tables e below (T109.setTop (mkF m 63 #[.val (.ref r0), .val (.int p1), .val (.int (31 : Int32)), .val (.int g), .val (.int i), .val (.int v4), .val (.int v5)] [(.int v5), (.int v4)])) t := by
          intro t kt
          show Steps p.tables e below (T109.setTop (mkF m 63 #[.val (.ref r0), .val (.int p1), .val (.int (31 : Int32)), .val (.int g), .val (.int i), .val (.int v4), .val (.int v5)] [(.int v5), (.int v4)])) _
          refine XS.icmpYes X109.here hx rfl (pc0 := 63) (pc' := 82) rfl (hb hby d19_63) rfl (tlt hc63_6).1 (by decide) (by decide) ?_
          show Steps p.tables e below (T109.setTop (mkF m 82 #[.val (.ref r0), .val (.int p1), .val (.int (31 : Int32)), .val (.int g), .val (.int i), .val (.int v4), .val (.int v5)] [])) _
          refine XS.iload X109.here hx rfl (hb hby d19_82) rfl ?_
          refine XS.iconst X109.here hx rfl (hb hby d19_84) ?_
          refine XS.iadd X109.here hx rfl (hb hby d19_85) rfl ?_
          show Steps p.tables e below (T109.setTop (mkF m 86 #[.val (.ref r0), .val (.int p1), .val (.int (31 : Int32)), .val (.int g), .val (.int i), .val (.int v4), .val (.int v5)] [(.int (i + (1 : Int32)))])) _
          refine XS.iloadN X109.here hx rfl (hb hby d19_86) rfl ?_
          refine XS.iand X109.here hx rfl (hb hby d19_87) rfl ?_
          show Steps p.tables e below (T109.setTop (mkF m 88 #[.val (.ref r0), .val (.int p1), .val (.int (31 : Int32)), .val (.int g), .val (.int i), .val (.int v4), .val (.int v5)] [(.int ((i + (1 : Int32)) &&& (31 : Int32)))])) _
          rw [← hv7]
          show Steps p.tables e below (T109.setTop (mkF m 88 #[.val (.ref r0), .val (.int p1), .val (.int (31 : Int32)), .val (.int g), .val (.int i), .val (.int v4), .val (.int v5)] [(.int v7)])) _
          refine XS.istore X109.here hx rfl (hb hby d19_88) rfl (l' := #[.val (.ref r0), .val (.int p1), .val (.int (31 : Int32)), .val (.int g), .val (.int v7), .val (.int v4), .val (.int v5)]) rfl ?_
          show Steps p.tables e below (T109.setTop (mkF m 90 #[.val (.ref r0), .val (.int p1), .val (.int (31 : Int32)), .val (.int g), .val (.int v7), .val (.int v4), .val (.int v5)] [])) _
          refine XS.goto X109.here hx rfl (pc0 := 90) (pc' := 17) rfl (hb hby d19_90) (by decide) (by decide) ?_
          exact kt
        refine own_run hgo111 ?_
        have yz := own_HHat hV hH hn3 hi.2 hv2 hc25_1 hv3
        exact ih _ _ _ f g v7 (.val (.int v4)) (.val (.int v5)) X109 N109 e109 Z0 K0 E_r0 F_slots F_hash1 A_ys A_y1 (Or.inr ⟨_, rfl, rfl⟩) (Or.inr ⟨_, rfl, rfl⟩) hgb (by rw [hv7]; exact own_and31 _) hV (by rw [hv7]; exact own_m2 hk hc25_1 yz hv4 hv5 hc63_6)
      · obtain ⟨T112, X112, e112, st112⟩ := getF X109 hx hZ hown (host := "") (Or.inl (own_wd hw 69 rfl)) Via.refl e109 F_slots (g := (mkF m 67 #[.val (.ref r0), .val (.int p1), .val (.int (31 : Int32)), .val (.int g), .val (.int i), .val (.int v4), .val (.int v5)] [(.ref r0)])) rfl rfl (hb hby d19_67)
        obtain ⟨T113, X113, e113, st113⟩ := getF X112 hx hZ hown (host := "") (Or.inl (own_wd hw 69 rfl)) Via.refl e112 F_slots (g := (mkF m 72 #[.val (.ref r0), .val (.int p1), .val (.int (31 : Int32)), .val (.int g), .val (.int i), .val (.int v4), .val (.int v5)] [(.ref r0), (.int g), (.ref ys)])) rfl rfl (hb hby d19_72)
        have hin77_114 : ¬ i < 0 ∧ i.toNatClampNeg < 32 := hi
        have hin78_115 : ¬ g < 0 ∧ g.toNatClampNeg < 32 := hgb
        obtain ⟨T116, h116, X116, e116, W116, B116, st116⟩ := own_stI X113 hx hZ e113 A_ys (j := g) (x := v2) hin78_115 (g := (mkF m 78 #[.val (.ref r0), .val (.int p1), .val (.int (31 : Int32)), .val (.int g), .val (.int i), .val (.int v4), .val (.int v5)] [(.int v2), (.int g), (.ref ys)])) rfl rfl (hb hby d19_78)
        obtain ⟨v8, hv8⟩ : ∃ z : Nat → Int32, z = (own_up f (g.toNatClampNeg) v2) := ⟨_, rfl⟩
        have B116n : own_AI Z h116 ys .int 32 v8 := by rw [hv8]; exact B116
        have F117 := E_r0.wr W116
        have F118 := F_slots.other W116 (Or.inl hne0)
        have F119 := F_hash1.other W116 (Or.inl hne0)
        have F120 := A_y1.other W116 hne1
        have Z121 : n0 ≤ h116.size := Nat.le_trans Z0 (Keep.of_wr W116).1
        have K122 : Keep h0 h116 [ys] := K0.wr W116 (Or.inl (List.mem_of_getElem? (i := 0) rfl))
        have N123 := Fr.snoc X116 N109 hg
        obtain ⟨v9, hv9⟩ : ∃ z : Int32, z = ((i + (1 : Int32)) &&& (31 : Int32)) := ⟨_, rfl⟩
        have hgo124 : ∀ t, Steps p.tables e below (T116.setTop (mkF m 17 #[.val (.ref r0), .val (.int p1), .val (.int (31 : Int32)), .val (.int i), .val (.int v9), .val (.int v4), .val (.int v5)] [])) t → Steps p.tables e below (T109.setTop (mkF m 63 #[.val (.ref r0), .val (.int p1), .val (.int (31 : Int32)), .val (.int g), .val (.int i), .val (.int v4), .val (.int v5)] [(.int v5), (.int v4)])) t := by
          intro t kt
          show Steps p.tables e below (T109.setTop (mkF m 63 #[.val (.ref r0), .val (.int p1), .val (.int (31 : Int32)), .val (.int g), .val (.int i), .val (.int v4), .val (.int v5)] [(.int v5), (.int v4)])) _
          refine XS.icmpNo X109.here hx rfl (hb hby d19_63) rfl (flt hc63_6).1 ?_
          show Steps p.tables e below (T109.setTop (mkF m 66 #[.val (.ref r0), .val (.int p1), .val (.int (31 : Int32)), .val (.int g), .val (.int i), .val (.int v4), .val (.int v5)] [])) _
          refine XS.aloadN X109.here hx rfl (hb hby d19_66) rfl rfl ?_
          show Steps p.tables e below (T109.setTop (mkF m 67 #[.val (.ref r0), .val (.int p1), .val (.int (31 : Int32)), .val (.int g), .val (.int i), .val (.int v4), .val (.int v5)] [(.ref r0)])) _
          refine st112 _ ?_
          show Steps p.tables e below (T112.setTop (mkF m 70 #[.val (.ref r0), .val (.int p1), .val (.int (31 : Int32)), .val (.int g), .val (.int i), .val (.int v4), .val (.int v5)] [(.ref ys)])) _
          refine XS.iloadN X112.here hx rfl (hb hby d19_70) rfl ?_
          refine XS.aloadN X112.here hx rfl (hb hby d19_71) rfl rfl ?_
          show Steps p.tables e below (T112.setTop (mkF m 72 #[.val (.ref r0), .val (.int p1), .val (.int (31 : Int32)), .val (.int g), .val (.int i), .val (.int v4), .val (.int v5)] [(.ref r0), (.int g), (.ref ys)])) _
          refine st113 _ ?_
          show Steps p.tables e below (T113.setTop (mkF m 75 #[.val (.ref r0), .val (.int p1), .val (.int (31 : Int32)), .val (.int g), .val (.int i), .val (.int v4), .val (.int v5)] [(.ref ys), (.int g), (.ref ys)])) _
          refine XS.iload X113.here hx rfl (hb hby d19_75) rfl ?_
          show Steps p.tables e below (T113.setTop (mkF m 77 #[.val (.ref r0), .val (.int p1), .val (.int (31 : Int32)), .val (.int g), .val (.int i), .val (.int v4), .val (.int v5)] [(.int i), (.ref ys), (.int g), (.ref ys)])) _
          refine own_ldI X113 hx hZ e113 A_ys (j := i) hin77_114 (g := (mkF m 77 #[.val (.ref r0), .val (.int p1), .val (.int (31 : Int32)), .val (.int g), .val (.int i), .val (.int v4), .val (.int v5)] [(.int i), (.ref ys), (.int g), (.ref ys)])) rfl rfl (hb hby d19_77) _ ?_
          show Steps p.tables e below (T113.setTop (mkF m 78 #[.val (.ref r0), .val (.int p1), .val (.int (31 : Int32)), .val (.int g), .val (.int i), .val (.int v4), .val (.int v5)] [(.int (f i.toNatClampNeg)), (.int g), (.ref ys)])) _
          rw [← hv2]
          refine st116 _ ?_
          show Steps p.tables e below (T116.setTop (mkF m 79 #[.val (.ref r0), .val (.int p1), .val (.int (31 : Int32)), .val (.int g), .val (.int i), .val (.int v4), .val (.int v5)] [])) _
          refine XS.iload X116.here hx rfl (hb hby d19_79) rfl ?_
          refine XS.istoreN X116.here hx rfl (hb hby d19_81) rfl (l' := #[.val (.ref r0), .val (.int p1), .val (.int (31 : Int32)), .val (.int i), .val (.int i), .val (.int v4), .val (.int v5)]) rfl ?_
          show Steps p.tables e below (T116.setTop (mkF m 82 #[.val (.ref r0), .val (.int p1), .val (.int (31 : Int32)), .val (.int i), .val (.int i), .val (.int v4), .val (.int v5)] [])) _
          refine XS.iload X116.here hx rfl (hb hby d19_82) rfl ?_
          refine XS.iconst X116.here hx rfl (hb hby d19_84) ?_
          refine XS.iadd X116.here hx rfl (hb hby d19_85) rfl ?_
          show Steps p.tables e below (T116.setTop (mkF m 86 #[.val (.ref r0), .val (.int p1), .val (.int (31 : Int32)), .val (.int i), .val (.int i), .val (.int v4), .val (.int v5)] [(.int (i + (1 : Int32)))])) _
          refine XS.iloadN X116.here hx rfl (hb hby d19_86) rfl ?_
          refine XS.iand X116.here hx rfl (hb hby d19_87) rfl ?_
          show Steps p.tables e below (T116.setTop (mkF m 88 #[.val (.ref r0), .val (.int p1), .val (.int (31 : Int32)), .val (.int i), .val (.int i), .val (.int v4), .val (.int v5)] [(.int ((i + (1 : Int32)) &&& (31 : Int32)))])) _
          rw [← hv9]
          show Steps p.tables e below (T116.setTop (mkF m 88 #[.val (.ref r0), .val (.int p1), .val (.int (31 : Int32)), .val (.int i), .val (.int i), .val (.int v4), .val (.int v5)] [(.int v9)])) _
          refine XS.istore X116.here hx rfl (hb hby d19_88) rfl (l' := #[.val (.ref r0), .val (.int p1), .val (.int (31 : Int32)), .val (.int i), .val (.int v9), .val (.int v4), .val (.int v5)]) rfl ?_
          show Steps p.tables e below (T116.setTop (mkF m 90 #[.val (.ref r0), .val (.int p1), .val (.int (31 : Int32)), .val (.int i), .val (.int v9), .val (.int v4), .val (.int v5)] [])) _
          refine XS.goto X116.here hx rfl (pc0 := 90) (pc' := 17) rfl (hb hby d19_90) (by decide) (by decide) ?_
          exact kt
        refine own_run hgo124 ?_
        have yz := own_HHat hV hH hn3 hi.2 hv2 hc25_1 hv3
        exact ih _ _ _ v8 i v9 (.val (.int v4)) (.val (.int v5)) X116 N123 e116 Z121 K122 F117 F118 F119 B116n F120 (Or.inr ⟨_, rfl, rfl⟩) (Or.inr ⟨_, rfl, rfl⟩) hi (by rw [hv9]; exact own_and31 _) (by rw [hv8]; exact own_Vmv hV hi.2 hv2 hc25_1) (by rw [hv9, hv8, hv2]; exact own_m3 hk hc25_1 yz hv4 hv5 hc63_6)
theorem d19_0 : decode prog_13_method_12_code 0 = .ok (.aload_n 0, 1) := by decide +kernel
theorem d19_1 : decode prog_13_method_12_code 1 = .ok (.getfield 40, 3) := by decide +kernel
theorem d19_4 : decode prog_13_method_12_code 4 = .ok (.arraylength, 1) := by decide +kernel
theorem d19_5 : decode prog_13_method_12_code 5 = .ok (.iconst 1, 1) := by decide +kernel
theorem d19_6 : decode prog_13_method_12_code 6 = .ok (.isub, 1) := by decide +kernel
theorem d19_7 : decode prog_13_method_12_code 7 = .ok (.istore_n 2, 1) := by decide +kernel
theorem d19_8 : decode prog_13_method_12_code 8 = .ok (.iload_n 1, 1) := by decide +kernel
theorem d19_9 : decode prog_13_method_12_code 9 = .ok (.istore_n 3, 1) := by decide +kernel
theorem d19_10 : decode prog_13_method_12_code 10 = .ok (.iload_n 3, 1) := by decide +kernel
theorem d19_11 : decode prog_13_method_12_code 11 = .ok (.iconst 1, 1) := by decide +kernel
theorem d19_12 : decode prog_13_method_12_code 12 = .ok (.iadd, 1) := by decide +kernel
theorem d19_13 : decode prog_13_method_12_code 13 = .ok (.iload_n 2, 1) := by decide +kernel
theorem d19_14 : decode prog_13_method_12_code 14 = .ok (.iand, 1) := by decide +kernel
theorem d19_15 : decode prog_13_method_12_code 15 = .ok (.istore 4, 2) := by decide +kernel
theorem d19_93 : decode prog_13_method_12_code 93 = .ok (.aload_n 0, 1) := by decide +kernel
theorem d19_94 : decode prog_13_method_12_code 94 = .ok (.getfield 40, 3) := by decide +kernel
theorem d19_97 : decode prog_13_method_12_code 97 = .ok (.iload_n 3, 1) := by decide +kernel
theorem d19_98 : decode prog_13_method_12_code 98 = .ok (.iconst (-1), 1) := by decide +kernel
theorem d19_99 : decode prog_13_method_12_code 99 = .ok (.iastore, 1) := by decide +kernel
theorem d19_100 : decode prog_13_method_12_code 100 = .ok (.return_, 1) := by decide +kernel
theorem ef_rs (m : MethodId) (r0 : Addr) (p1 : Int32) : entryFrame m #[(.ref r0), (.int p1)] 7 = mkF m 0 #[.val (.ref r0), .val (.int p1), .unset, .unset, .unset, .unset, .unset] [] := by (first | (simp [entryFrame, mkF, argsToLocals, Value.category]; done) | rfl)
def Qrs (Z : State) (r0 : Addr) (p1 : Int32) (ys : Addr) (y1 : Addr) (g1 : Nat → Int64) (H : Nat → Int32) (ff : Nat → Int32) (n : Nat) (f : Nat → Int32) (h0 : Heap) (n0 : Nat) (v : Option Value) (h : Heap) (L : List Loc) : Prop := v = none ∧ Fr n0 L ∧ Keep h0 h [ys] ∧ own_AI Z h ys .int 32 ff
set_option maxRecDepth 65536 in
set_option maxHeartbeats 40000000 in
theorem rmrs (l : Launch) (Z : State) (a0 : Array Value) (hw : ∀ d ∈ tables_1, d.before a0 Z = true) (ws : List Jvm.Cond) (r0 : Addr) (p1 : Int32) (ys : Addr) (y1 : Addr) (g1 : Nat → Int64) (H : Nat → Int32) (ff : Nat → Int32) (n : Nat) (f : Nat → Int32) (h0 : Heap) (n0 : Nat) (Z0 : n0 ≤ h0.size) (E_r0 : Exa Z h0 r0 "com/example/upper_falls/upperfalls/HeldKeys") (F_slots : Fld Z h0 r0 "com/example/upper_falls/upperfalls/HeldKeys" "slots" "[I" (.ref ys)) (F_hash1 : Fld Z h0 r0 "com/example/upper_falls/upperfalls/HeldKeys" "hash1" "[J" (.ref y1)) (A_ys : own_AI Z h0 ys .int 32 f) (A_y1 : own_AJ Z h0 y1 .long 16 g1) (hg : n0 ≤ ys) (hne0 : r0 ≠ ys) (hne1 : y1 ≠ ys) (hH : own_HH n g1 H) (hn3 : n ≤ 3) (hV : own_V n f) (hpb : (¬ p1 < 0 ∧ p1.toNatClampNeg < 32)) (hk : own_rms H 8 f p1 ((p1 + (1 : Int32)) &&& (31 : Int32)) = some ff) :
    MetFree l (⟨"com/example/upper_falls/upperfalls/HeldKeys", "removeSlot", "(I)V"⟩ : MethodName) (head1 (Jvm.Cond.code (⟨"com/example/upper_falls/upperfalls/HeldKeys", "removeSlot", "(I)V"⟩ : MethodName) prog_13_method_12_code 7 none :: ws) ({ frames := 1, cells := 0, slots := 0, locals := 40 } : Room)) (fun a U => a = #[(.ref r0), (.int p1)] ∧ Z.Warmed39 U.vm ∧ U.heap = h0) (fun _ _ _ _ _ => True) (fun _ U o U' => ∃ v L, o = .returned v ∧ Qrs Z r0 p1 ys y1 g1 H ff n f h0 n0 v U'.heap L ∧ FrameEnd U o U' L ({ frames := 1, cells := 0, slots := 0, locals := 40 } : Room).cells ({ frames := 1, cells := 0, slots := 0, locals := 40 } : Room).slots) := by
  refine MetFree.of_bodySF (plainFor_of_name pn9) hisR ?_
  intro p e s m args below meth c s₁ Bd hml0 hP hK
  obtain ⟨rfl, hZ, hh⟩ := hP
  have hx := Bd.exec
  have hby := Bd.bytes
  have hml : c.maxLocals = 7 := hml0
  have hown : s.vm.findClass "com/example/upper_falls/upperfalls/HeldKeys" = some m.cls := findClass_of_methodNamed Bd.named
  have hnm := (name_of_methodNamed Bd.named Bd.method).1
  have X0 : Stand p l e ({ frames := 1, cells := 0, slots := 0, locals := 40 } : Room) s m #[(.ref r0), (.int p1)] below meth c s₁ [] 0 0 := Stand.of_body Bd
  have e0 : s₁.heap = h0 := by rw [← hh, Bd.state]; rfl
  have N0 := Fr.nil n0
  have K0 : Keep h0 h0 [ys] := Keep.refl h0 _
  show own_Go p e below s (Qrs Z r0 p1 ys y1 g1 H ff n f h0 n0) ({ frames := 1, cells := 0, slots := 0, locals := 40 } : Room).cells ({ frames := 1, cells := 0, slots := 0, locals := 40 } : Room).slots (s₁.setTop (entryFrame m #[(.ref r0), (.int p1)] 7))
  refine own_go (fun t k => castTop (ef_rs m r0 p1) k) ?_
  obtain ⟨T101, X101, e101, st101⟩ := getF X0 hx hZ hown (host := "") (Or.inl (own_wd hw 69 rfl)) Via.refl e0 F_slots (g := (mkF m 1 #[.val (.ref r0), .val (.int p1), .unset, .unset, .unset, .unset, .unset] [(.ref r0)])) rfl rfl (hb hby d19_1)
  obtain ⟨v1, hv1⟩ : ∃ z : Int32, z = ((p1 + (1 : Int32)) &&& (31 : Int32)) := ⟨_, rfl⟩
  obtain ⟨_, ⟨T1, lc1, h1, f1, g1', i1, s51, s61, rfl, X1, N1, e1, Z1, K1, E1, Fs1, Fh1, As1, Ah1, gb1, ff1⟩, stR⟩ := own_rmsL r0 p1 ys y1 g1 H ff n hx hZ hw hby hml hown hg hne0 hne1 hH hn3 8 _ _ _ f p1 v1 .unset .unset X101 N0 e101 Z0 K0 E_r0 F_slots F_hash1 A_ys A_y1 (Or.inl rfl) (Or.inl rfl) hpb (by rw [hv1]; exact own_and31 _) hV (by rw [hv1]; exact hk)
  obtain ⟨T102, X102, e102, st102⟩ := getF X1 hx hZ hown (host := "") (Or.inl (own_wd hw 69 rfl)) Via.refl e1 Fs1 (g := (mkF m 94 #[.val (.ref r0), .val (.int p1), .val (.int (31 : Int32)), .val (.int g1'), .val (.int i1), s51, s61] [(.ref r0)])) rfl rfl (hb hby d19_94)
  have hin99_103 : ¬ g1' < 0 ∧ g1'.toNatClampNeg < 32 := gb1
  obtain ⟨T104, h104, X104, e104, W104, B104, st104⟩ := own_stI X102 hx hZ e102 As1 (j := g1') (x := (-1 : Int32)) hin99_103 (g := (mkF m 99 #[.val (.ref r0), .val (.int p1), .val (.int (31 : Int32)), .val (.int g1'), .val (.int i1), s51, s61] [(.int (-1 : Int32)), (.int g1'), (.ref ys)])) rfl rfl (hb hby d19_99)
  obtain ⟨v2, hv2⟩ : ∃ z : Nat → Int32, z = (own_up f1 (g1'.toNatClampNeg) (-1 : Int32)) := ⟨_, rfl⟩
  have B104n : own_AI Z h104 ys .int 32 v2 := by rw [hv2]; exact B104
  have F105 := E1.wr W104
  have F106 := Fs1.other W104 (Or.inl hne0)
  have F107 := Fh1.other W104 (Or.inl hne0)
  have F108 := Ah1.other W104 hne1
  have Z109 : n0 ≤ h104.size := Nat.le_trans Z1 (Keep.of_wr W104).1
  have K110 : Keep h0 h104 [ys] := K1.wr W104 (Or.inl (List.mem_of_getElem? (i := 0) rfl))
  have N111 := Fr.snoc X104 N1 hg
  have hgo112 : ∀ t, Steps p.tables e below (T104.setTop (mkF m 100 #[.val (.ref r0), .val (.int p1), .val (.int (31 : Int32)), .val (.int g1'), .val (.int i1), s51, s61] [])) t → Steps p.tables e below (s₁.setTop (mkF m 0 #[.val (.ref r0), .val (.int p1), .unset, .unset, .unset, .unset, .unset] [])) t := by
    intro t kt
    show Steps p.tables e below (s₁.setTop (mkF m 0 #[.val (.ref r0), .val (.int p1), .unset, .unset, .unset, .unset, .unset] [])) _
    refine XS.aloadN X0.here hx rfl (hb hby d19_0) rfl rfl ?_
    show Steps p.tables e below (s₁.setTop (mkF m 1 #[.val (.ref r0), .val (.int p1), .unset, .unset, .unset, .unset, .unset] [(.ref r0)])) _
    refine st101 _ ?_
    show Steps p.tables e below (T101.setTop (mkF m 4 #[.val (.ref r0), .val (.int p1), .unset, .unset, .unset, .unset, .unset] [(.ref ys)])) _
    refine own_lenI X101 hx hZ e101 A_ys (g := (mkF m 4 #[.val (.ref r0), .val (.int p1), .unset, .unset, .unset, .unset, .unset] [(.ref ys)])) rfl rfl (hb hby d19_4) _ ?_
    show Steps p.tables e below (T101.setTop (mkF m 5 #[.val (.ref r0), .val (.int p1), .unset, .unset, .unset, .unset, .unset] [(.int (32 : Int32))])) _
    refine XS.iconst X101.here hx rfl (hb hby d19_5) ?_
    refine XS.isub X101.here hx rfl (hb hby d19_6) rfl ?_
    show Steps p.tables e below (T101.setTop (mkF m 7 #[.val (.ref r0), .val (.int p1), .unset, .unset, .unset, .unset, .unset] [(.int (31 : Int32))])) _
    refine XS.istoreN X101.here hx rfl (hb hby d19_7) rfl (l' := #[.val (.ref r0), .val (.int p1), .val (.int (31 : Int32)), .unset, .unset, .unset, .unset]) rfl ?_
    show Steps p.tables e below (T101.setTop (mkF m 8 #[.val (.ref r0), .val (.int p1), .val (.int (31 : Int32)), .unset, .unset, .unset, .unset] [])) _
    refine XS.iloadN X101.here hx rfl (hb hby d19_8) rfl ?_
    refine XS.istoreN X101.here hx rfl (hb hby d19_9) rfl (l' := #[.val (.ref r0), .val (.int p1), .val (.int (31 : Int32)), .val (.int p1), .unset, .unset, .unset]) rfl ?_
    show Steps p.tables e below (T101.setTop (mkF m 10 #[.val (.ref r0), .val (.int p1), .val (.int (31 : Int32)), .val (.int p1), .unset, .unset, .unset] [])) _
    refine XS.iloadN X101.here hx rfl (hb hby d19_10) rfl ?_
    refine XS.iconst X101.here hx rfl (hb hby d19_11) ?_
    refine XS.iadd X101.here hx rfl (hb hby d19_12) rfl ?_
    show Steps p.tables e below (T101.setTop (mkF m 13 #[.val (.ref r0), .val (.int p1), .val (.int (31 : Int32)), .val (.int p1), .unset, .unset, .unset] [(.int (p1 + (1 : Int32)))])) _
    refine XS.iloadN X101.here hx rfl (hb hby d19_13) rfl ?_
    refine XS.iand X101.here hx rfl (hb hby d19_14) rfl ?_
    show Steps p.tables e below (T101.setTop (mkF m 15 #[.val (.ref r0), .val (.int p1), .val (.int (31 : Int32)), .val (.int p1), .unset, .unset, .unset] [(.int ((p1 + (1 : Int32)) &&& (31 : Int32)))])) _
    rw [← hv1]
    show Steps p.tables e below (T101.setTop (mkF m 15 #[.val (.ref r0), .val (.int p1), .val (.int (31 : Int32)), .val (.int p1), .unset, .unset, .unset] [(.int v1)])) _
    refine XS.istore X101.here hx rfl (hb hby d19_15) rfl (l' := #[.val (.ref r0), .val (.int p1), .val (.int (31 : Int32)), .val (.int p1), .val (.int v1), .unset, .unset]) rfl ?_
    show Steps p.tables e below (T101.setTop (mkF m 17 #[.val (.ref r0), .val (.int p1), .val (.int (31 : Int32)), .val (.int p1), .val (.int v1), .unset, .unset] [])) _
    refine stR _ ?_
    show Steps p.tables e below (T1.setTop (mkF m 93 #[.val (.ref r0), .val (.int p1), .val (.int (31 : Int32)), .val (.int g1'), .val (.int i1), s51, s61] [])) _
    refine XS.aloadN X1.here hx rfl (hb hby d19_93) rfl rfl ?_
    show Steps p.tables e below (T1.setTop (mkF m 94 #[.val (.ref r0), .val (.int p1), .val (.int (31 : Int32)), .val (.int g1'), .val (.int i1), s51, s61] [(.ref r0)])) _
    refine st102 _ ?_
    show Steps p.tables e below (T102.setTop (mkF m 97 #[.val (.ref r0), .val (.int p1), .val (.int (31 : Int32)), .val (.int g1'), .val (.int i1), s51, s61] [(.ref ys)])) _
    refine XS.iloadN X102.here hx rfl (hb hby d19_97) rfl ?_
    refine XS.iconst X102.here hx rfl (hb hby d19_98) ?_
    show Steps p.tables e below (T102.setTop (mkF m 99 #[.val (.ref r0), .val (.int p1), .val (.int (31 : Int32)), .val (.int g1'), .val (.int i1), s51, s61] [(.int (-1 : Int32)), (.int g1'), (.ref ys)])) _
    refine st104 _ ?_
    exact kt
  refine own_go hgo112 ?_
  exact own_retV X104 hx Bd.returns Bd.notSynchronized (hb hby d19_100) (by decide) (by decide) (by rw [e104]; exact ⟨(by rfl), N111, K110, (by rw [ff1, ← hv2]; exact B104n)⟩)
theorem d18_0 : decode prog_13_method_5_code 0 = .ok (.aload_n 0, 1) := by decide +kernel
theorem d18_1 : decode prog_13_method_5_code 1 = .ok (.getfield 29, 3) := by decide +kernel
theorem d18_4 : decode prog_13_method_5_code 4 = .ok (.iload_n 1, 1) := by decide +kernel
theorem d18_5 : decode prog_13_method_5_code 5 = .ok (.dup2, 1) := by decide +kernel
theorem d18_6 : decode prog_13_method_5_code 6 = .ok (.iaload, 1) := by decide +kernel
theorem d18_7 : decode prog_13_method_5_code 7 = .ok (.iconst 1, 1) := by decide +kernel
theorem d18_8 : decode prog_13_method_5_code 8 = .ok (.isub, 1) := by decide +kernel
theorem d18_9 : decode prog_13_method_5_code 9 = .ok (.iastore, 1) := by decide +kernel
theorem d18_10 : decode prog_13_method_5_code 10 = .ok (.aload_n 0, 1) := by decide +kernel
theorem d18_11 : decode prog_13_method_5_code 11 = .ok (.getfield 29, 3) := by decide +kernel
theorem d18_14 : decode prog_13_method_5_code 14 = .ok (.iload_n 1, 1) := by decide +kernel
theorem d18_15 : decode prog_13_method_5_code 15 = .ok (.iaload, 1) := by decide +kernel
theorem d18_16 : decode prog_13_method_5_code 16 = .ok (.ifCond .ne 63, 3) := by decide +kernel
theorem d18_79 : decode prog_13_method_5_code 79 = .ok (.return_, 1) := by decide +kernel
theorem ef_rk (m : MethodId) (r0 : Addr) (p1 : Int32) : entryFrame m #[(.ref r0), (.int p1)] 4 = mkF m 0 #[.val (.ref r0), .val (.int p1), .unset, .unset] [] := by (first | (simp [entryFrame, mkF, argsToLocals, Value.category]; done) | rfl)
def Qrk (Z : State) (r0 : Addr) (p1 : Int32) (y1 : Addr) (y2 : Addr) (yo : Addr) (yh : Addr) (yf : Addr) (ys : Addr) (g1 : Nat → Int64) (g2 : Nat → Int64) (oc : Nat → Int64) (hd : Nat → Int32) (fr : Nat → Int32) (f : Nat → Int32) (u : Int32) (fc : Int32) (h0 : Heap) (n0 : Nat) (v : Option Value) (h : Heap) (L : List Loc) : Prop := v = none ∧ Fr n0 L ∧ Keep h0 h [yh] ∧ own_AI Z h yh .int 16 (own_up hd (p1.toNatClampNeg) ((hd p1.toNatClampNeg) - (1 : Int32)))
set_option maxRecDepth 65536 in
set_option maxHeartbeats 40000000 in
theorem rmrk (l : Launch) (Z : State) (a0 : Array Value) (hw : ∀ d ∈ tables_1, d.before a0 Z = true) (ws : List Jvm.Cond) (r0 : Addr) (p1 : Int32) (y1 : Addr) (y2 : Addr) (yo : Addr) (yh : Addr) (yf : Addr) (ys : Addr) (g1 : Nat → Int64) (g2 : Nat → Int64) (oc : Nat → Int64) (hd : Nat → Int32) (fr : Nat → Int32) (f : Nat → Int32) (u : Int32) (fc : Int32) (h0 : Heap) (n0 : Nat) (Z0 : n0 ≤ h0.size) (E_r0 : Exa Z h0 r0 "com/example/upper_falls/upperfalls/HeldKeys") (F_hash1 : Fld Z h0 r0 "com/example/upper_falls/upperfalls/HeldKeys" "hash1" "[J" (.ref y1)) (F_hash2 : Fld Z h0 r0 "com/example/upper_falls/upperfalls/HeldKeys" "hash2" "[J" (.ref y2)) (F_occurrences : Fld Z h0 r0 "com/example/upper_falls/upperfalls/HeldKeys" "occurrences" "[J" (.ref yo)) (F_holders : Fld Z h0 r0 "com/example/upper_falls/upperfalls/HeldKeys" "holders" "[I" (.ref yh)) (F_free : Fld Z h0 r0 "com/example/upper_falls/upperfalls/HeldKeys" "free" "[I" (.ref yf)) (F_slots : Fld Z h0 r0 "com/example/upper_falls/upperfalls/HeldKeys" "slots" "[I" (.ref ys)) (F_limit : Fld Z h0 r0 "com/example/upper_falls/upperfalls/HeldKeys" "limit" "I" (.int (16 : Int32))) (F_used : Fld Z h0 r0 "com/example/upper_falls/upperfalls/HeldKeys" "used" "I" (.int u)) (F_freeCount : Fld Z h0 r0 "com/example/upper_falls/upperfalls/HeldKeys" "freeCount" "I" (.int fc)) (A_y1 : own_AJ Z h0 y1 .long 16 g1) (A_y2 : own_AJ Z h0 y2 .long 16 g2) (A_yo : own_AJ Z h0 yo .long 16 oc) (A_yh : own_AI Z h0 yh .int 16 hd) (A_yf : own_AI Z h0 yf .int 16 fr) (A_ys : own_AI Z h0 ys .int 32 f) (hu : (¬ p1 < 0 ∧ p1.toNatClampNeg < 16)) (hz : ¬ (((hd p1.toNatClampNeg) - (1 : Int32)) = (0 : Int32))) (hne_r0_yh : r0 ≠ yh) (hne_y1_yh : y1 ≠ yh) (hne_y2_yh : y2 ≠ yh) (hne_yo_yh : yo ≠ yh) (hne_yf_yh : yf ≠ yh) (hne_ys_yh : ys ≠ yh) (g_yh : n0 ≤ yh) :
    MetFree l (⟨"com/example/upper_falls/upperfalls/HeldKeys", "release", "(I)V"⟩ : MethodName) (head1 (Jvm.Cond.code (⟨"com/example/upper_falls/upperfalls/HeldKeys", "release", "(I)V"⟩ : MethodName) prog_13_method_5_code 4 none :: ws) ({ frames := 0, cells := 0, slots := 0, locals := 0 } : Room)) (fun a U => a = #[(.ref r0), (.int p1)] ∧ Z.Warmed39 U.vm ∧ U.heap = h0) (fun _ _ _ _ _ => True) (fun _ U o U' => ∃ v L, o = .returned v ∧ Qrk Z r0 p1 y1 y2 yo yh yf ys g1 g2 oc hd fr f u fc h0 n0 v U'.heap L ∧ FrameEnd U o U' L ({ frames := 0, cells := 0, slots := 0, locals := 0 } : Room).cells ({ frames := 0, cells := 0, slots := 0, locals := 0 } : Room).slots) := by
  refine MetFree.of_bodySF (plainFor_of_name pn9) hisR ?_
  intro p e s m args below meth c s₁ Bd hml0 hP hK
  obtain ⟨rfl, hZ, hh⟩ := hP
  have hx := Bd.exec
  have hby := Bd.bytes
  have hml : c.maxLocals = 4 := hml0
  have hown : s.vm.findClass "com/example/upper_falls/upperfalls/HeldKeys" = some m.cls := findClass_of_methodNamed Bd.named
  have hnm := (name_of_methodNamed Bd.named Bd.method).1
  have X0 : Stand p l e ({ frames := 0, cells := 0, slots := 0, locals := 0 } : Room) s m #[(.ref r0), (.int p1)] below meth c s₁ [] 0 0 := Stand.of_body Bd
  have e0 : s₁.heap = h0 := by rw [← hh, Bd.state]; rfl
  have N0 := Fr.nil n0
  have K0 : Keep h0 h0 [yh] := Keep.refl h0 _
  show own_Go p e below s (Qrk Z r0 p1 y1 y2 yo yh yf ys g1 g2 oc hd fr f u fc h0 n0) ({ frames := 0, cells := 0, slots := 0, locals := 0 } : Room).cells ({ frames := 0, cells := 0, slots := 0, locals := 0 } : Room).slots (s₁.setTop (entryFrame m #[(.ref r0), (.int p1)] 4))
  refine own_go (fun t k => castTop (ef_rk m r0 p1) k) ?_
  obtain ⟨T101, X101, e101, st101⟩ := getF X0 hx hZ hown (host := "") (Or.inl (own_wd hw 46 rfl)) Via.refl e0 F_holders (g := (mkF m 1 #[.val (.ref r0), .val (.int p1), .unset, .unset] [(.ref r0)])) rfl rfl (hb hby d18_1)
  have hin6_102 : ¬ p1 < 0 ∧ p1.toNatClampNeg < 16 := hu
  obtain ⟨v1, hv1⟩ : ∃ z : Int32, z = ((hd p1.toNatClampNeg) - (1 : Int32)) := ⟨_, rfl⟩
  have hin9_103 : ¬ p1 < 0 ∧ p1.toNatClampNeg < 16 := hu
  obtain ⟨T104, h104, X104, e104, W104, B104, st104⟩ := own_stI X101 hx hZ e101 A_yh (j := p1) (x := v1) hin9_103 (g := (mkF m 9 #[.val (.ref r0), .val (.int p1), .unset, .unset] [(.int v1), (.int p1), (.ref yh)])) rfl rfl (hb hby d18_9)
  obtain ⟨v2, hv2⟩ : ∃ z : Nat → Int32, z = (own_up hd (p1.toNatClampNeg) v1) := ⟨_, rfl⟩
  have B104n : own_AI Z h104 yh .int 16 v2 := by rw [hv2]; exact B104
  have F105 := E_r0.wr W104
  have F106 := F_hash1.other W104 (Or.inl hne_r0_yh)
  have F107 := F_hash2.other W104 (Or.inl hne_r0_yh)
  have F108 := F_occurrences.other W104 (Or.inl hne_r0_yh)
  have F109 := F_holders.other W104 (Or.inl hne_r0_yh)
  have F110 := F_free.other W104 (Or.inl hne_r0_yh)
  have F111 := F_slots.other W104 (Or.inl hne_r0_yh)
  have F112 := F_limit.other W104 (Or.inl hne_r0_yh)
  have F113 := F_used.other W104 (Or.inl hne_r0_yh)
  have F114 := F_freeCount.other W104 (Or.inl hne_r0_yh)
  have F115 := A_y1.other W104 hne_y1_yh
  have F116 := A_y2.other W104 hne_y2_yh
  have F117 := A_yo.other W104 hne_yo_yh
  have F118 := A_yf.other W104 hne_yf_yh
  have F119 := A_ys.other W104 hne_ys_yh
  have Z120 : n0 ≤ h104.size := Nat.le_trans Z0 (Keep.of_wr W104).1
  have K121 : Keep h0 h104 [yh] := K0.wr W104 (Or.inl (List.mem_of_getElem? (i := 0) rfl))
  have N122 := Fr.snoc X104 N0 g_yh
  obtain ⟨T123, X123, e123, st123⟩ := getF X104 hx hZ hown (host := "") (Or.inl (own_wd hw 46 rfl)) Via.refl e104 F109 (g := (mkF m 11 #[.val (.ref r0), .val (.int p1), .unset, .unset] [(.ref r0)])) rfl rfl (hb hby d18_11)
  have hin15_124 : ¬ p1 < 0 ∧ p1.toNatClampNeg < 16 := hu
  have hgo125 : ∀ t, Steps p.tables e below (T123.setTop (mkF m 79 #[.val (.ref r0), .val (.int p1), .unset, .unset] [])) t → Steps p.tables e below (s₁.setTop (mkF m 0 #[.val (.ref r0), .val (.int p1), .unset, .unset] [])) t := by
    intro t kt
    show Steps p.tables e below (s₁.setTop (mkF m 0 #[.val (.ref r0), .val (.int p1), .unset, .unset] [])) _
    refine XS.aloadN X0.here hx rfl (hb hby d18_0) rfl rfl ?_
    show Steps p.tables e below (s₁.setTop (mkF m 1 #[.val (.ref r0), .val (.int p1), .unset, .unset] [(.ref r0)])) _
    refine st101 _ ?_
    show Steps p.tables e below (T101.setTop (mkF m 4 #[.val (.ref r0), .val (.int p1), .unset, .unset] [(.ref yh)])) _
    refine XS.iloadN X101.here hx rfl (hb hby d18_4) rfl ?_
    show Steps p.tables e below (T101.setTop (mkF m 5 #[.val (.ref r0), .val (.int p1), .unset, .unset] [(.int p1), (.ref yh)])) _
    jvm_step X101.here [X101.here.top, hx, (hb hby d18_5), Value.category]
    show Steps p.tables e below (T101.setTop (mkF m 6 #[.val (.ref r0), .val (.int p1), .unset, .unset] [(.int p1), (.ref yh), (.int p1), (.ref yh)])) _
    refine own_ldI X101 hx hZ e101 A_yh (j := p1) hin6_102 (g := (mkF m 6 #[.val (.ref r0), .val (.int p1), .unset, .unset] [(.int p1), (.ref yh), (.int p1), (.ref yh)])) rfl rfl (hb hby d18_6) _ ?_
    show Steps p.tables e below (T101.setTop (mkF m 7 #[.val (.ref r0), .val (.int p1), .unset, .unset] [(.int (hd p1.toNatClampNeg)), (.int p1), (.ref yh)])) _
    refine XS.iconst X101.here hx rfl (hb hby d18_7) ?_
    refine XS.isub X101.here hx rfl (hb hby d18_8) rfl ?_
    show Steps p.tables e below (T101.setTop (mkF m 9 #[.val (.ref r0), .val (.int p1), .unset, .unset] [(.int ((hd p1.toNatClampNeg) - (1 : Int32))), (.int p1), (.ref yh)])) _
    rw [← hv1]
    refine st104 _ ?_
    show Steps p.tables e below (T104.setTop (mkF m 10 #[.val (.ref r0), .val (.int p1), .unset, .unset] [])) _
    refine XS.aloadN X104.here hx rfl (hb hby d18_10) rfl rfl ?_
    show Steps p.tables e below (T104.setTop (mkF m 11 #[.val (.ref r0), .val (.int p1), .unset, .unset] [(.ref r0)])) _
    refine st123 _ ?_
    show Steps p.tables e below (T123.setTop (mkF m 14 #[.val (.ref r0), .val (.int p1), .unset, .unset] [(.ref yh)])) _
    refine XS.iloadN X123.here hx rfl (hb hby d18_14) rfl ?_
    show Steps p.tables e below (T123.setTop (mkF m 15 #[.val (.ref r0), .val (.int p1), .unset, .unset] [(.int p1), (.ref yh)])) _
    refine own_ldI X123 hx hZ e123 B104n (j := p1) hin15_124 (g := (mkF m 15 #[.val (.ref r0), .val (.int p1), .unset, .unset] [(.int p1), (.ref yh)])) rfl rfl (hb hby d18_15) _ ?_
    show Steps p.tables e below (T123.setTop (mkF m 16 #[.val (.ref r0), .val (.int p1), .unset, .unset] [(.int (v2 p1.toNatClampNeg))])) _
    refine XS.ifYes X123.here hx rfl (pc0 := 16) (pc' := 79) rfl (hb hby d18_16) rfl ((if0 _ _).trans (feq (by rw [hv2, own_upS, hv1]; exact hz)).2) (by decide) (by decide) ?_
    exact kt
  refine own_go hgo125 ?_
  exact own_retV X123 hx Bd.returns Bd.notSynchronized (hb hby d18_79) (by decide) (by decide) (by rw [e123]; exact ⟨(by rfl), N122, K121, (by subst hv2 hv1; exact B104n)⟩)
theorem d18_38 : decode prog_13_method_5_code 38 = .ok (.aload_n 0, 1) := by decide +kernel
theorem d18_39 : decode prog_13_method_5_code 39 = .ok (.getfield 40, 3) := by decide +kernel
theorem d18_42 : decode prog_13_method_5_code 42 = .ok (.iload_n 3, 1) := by decide +kernel
theorem d18_43 : decode prog_13_method_5_code 43 = .ok (.iaload, 1) := by decide +kernel
theorem d18_44 : decode prog_13_method_5_code 44 = .ok (.iload_n 1, 1) := by decide +kernel
theorem d18_45 : decode prog_13_method_5_code 45 = .ok (.if_icmp .eq 12, 3) := by decide +kernel
theorem d18_48 : decode prog_13_method_5_code 48 = .ok (.iload_n 3, 1) := by decide +kernel
theorem d18_49 : decode prog_13_method_5_code 49 = .ok (.iconst 1, 1) := by decide +kernel
theorem d18_50 : decode prog_13_method_5_code 50 = .ok (.iadd, 1) := by decide +kernel
theorem d18_51 : decode prog_13_method_5_code 51 = .ok (.iload_n 2, 1) := by decide +kernel
theorem d18_52 : decode prog_13_method_5_code 52 = .ok (.iand, 1) := by decide +kernel
theorem d18_53 : decode prog_13_method_5_code 53 = .ok (.istore_n 3, 1) := by decide +kernel
theorem d18_54 : decode prog_13_method_5_code 54 = .ok (.goto (-16), 3) := by decide +kernel
set_option maxRecDepth 65536 in
set_option maxHeartbeats 40000000 in
theorem own_sltL {p : Program} {l : Launch} {e : Env} {R : Room} {s : State} {m : MethodId} {args : Array Value} {below : List Frame} {meth : Method} {c : Code} {cells slots : Nat} {Z : State} {a0 : Array Value} {h0 : Heap} {n0 : Nat} (r0 : Addr) (p1 : Int32) (ys : Addr) (f : Nat → Int32) (y : Int32) (hx : p.tables.exec = Jvm.exec) (hZ : Z.Warmed39 s.vm) (hw : ∀ d ∈ tables_1, d.before a0 Z = true) (hby : c.code = prog_13_method_5_code) (hml : c.maxLocals = 4) (hown : s.vm.findClass "com/example/upper_falls/upperfalls/HeldKeys" = some m.cls) :
    ∀ (k : Nat) (T : State) (locs : List Loc) (h : Heap) (i : Int32), Stand p l e R s m args below meth c T locs cells slots → Fr n0 locs → T.heap = h → n0 ≤ h.size → Keep h0 h [] → Exa Z h r0 "com/example/upper_falls/upperfalls/HeldKeys" → Fld Z h r0 "com/example/upper_falls/upperfalls/HeldKeys" "slots" "[I" (.ref ys) → own_AI Z h ys .int 32 f → (¬ i < 0 ∧ i.toNatClampNeg < 32) → own_slt f p1 k i = some y → own_Run p e below (T.setTop (mkF m 38 #[.val (.ref r0), .val (.int p1), .val (.int (31 : Int32)), .val (.int i)] [])) (fun B => ∃ (T' : State) (locs' : List Loc), B = T'.setTop (mkF m 57 #[.val (.ref r0), .val (.int p1), .val (.int (31 : Int32)), .val (.int y)] []) ∧ Stand p l e R s m args below meth c T' locs' cells slots ∧ Fr n0 locs' ∧ T'.heap = h) := by
  intro k
  induction k with
  | zero =>
    intro T locs h i X0 N0 e0 Z0 K0 E_r0 F_slots A_ys hi hk
    cases hk
  | succ k ih =>
    intro T locs h i X0 N0 e0 Z0 K0 E_r0 F_slots A_ys hi hk
    obtain ⟨T101, X101, e101, st101⟩ := getF X0 hx hZ hown (host := "") (Or.inl (own_wd hw 69 rfl)) Via.refl e0 F_slots (g := (mkF m 39 #[.val (.ref r0), .val (.int p1), .val (.int (31 : Int32)), .val (.int i)] [(.ref r0)])) rfl rfl (hb hby d18_39)
    have hin43_102 : ¬ i < 0 ∧ i.toNatClampNeg < 32 := hi
    have hgo103 : ∀ t, Steps p.tables e below (T101.setTop (mkF m 45 #[.val (.ref r0), .val (.int p1), .val (.int (31 : Int32)), .val (.int i)] [(.int p1), (.int (f i.toNatClampNeg))])) t → Steps p.tables e below (T.setTop (mkF m 38 #[.val (.ref r0), .val (.int p1), .val (.int (31 : Int32)), .val (.int i)] [])) t := by
      intro t kt
      show Steps p.tables e below (T.setTop (mkF m 38 #[.val (.ref r0), .val (.int p1), .val (.int (31 : Int32)), .val (.int i)] [])) _
      refine XS.aloadN X0.here hx rfl (hb hby d18_38) rfl rfl ?_
      show Steps p.tables e below (T.setTop (mkF m 39 #[.val (.ref r0), .val (.int p1), .val (.int (31 : Int32)), .val (.int i)] [(.ref r0)])) _
      refine st101 _ ?_
      show Steps p.tables e below (T101.setTop (mkF m 42 #[.val (.ref r0), .val (.int p1), .val (.int (31 : Int32)), .val (.int i)] [(.ref ys)])) _
      refine XS.iloadN X101.here hx rfl (hb hby d18_42) rfl ?_
      show Steps p.tables e below (T101.setTop (mkF m 43 #[.val (.ref r0), .val (.int p1), .val (.int (31 : Int32)), .val (.int i)] [(.int i), (.ref ys)])) _
      refine own_ldI X101 hx hZ e101 A_ys (j := i) hin43_102 (g := (mkF m 43 #[.val (.ref r0), .val (.int p1), .val (.int (31 : Int32)), .val (.int i)] [(.int i), (.ref ys)])) rfl rfl (hb hby d18_43) _ ?_
      show Steps p.tables e below (T101.setTop (mkF m 44 #[.val (.ref r0), .val (.int p1), .val (.int (31 : Int32)), .val (.int i)] [(.int (f i.toNatClampNeg))])) _
      refine XS.iloadN X101.here hx rfl (hb hby d18_44) rfl ?_
      exact kt
    refine own_run hgo103 ?_
    by_cases hc45_1 : (f i.toNatClampNeg) = p1
    · have hgo104 : ∀ t, Steps p.tables e below (T101.setTop (mkF m 57 #[.val (.ref r0), .val (.int p1), .val (.int (31 : Int32)), .val (.int i)] [])) t → Steps p.tables e below (T101.setTop (mkF m 45 #[.val (.ref r0), .val (.int p1), .val (.int (31 : Int32)), .val (.int i)] [(.int p1), (.int (f i.toNatClampNeg))])) t := by
        intro t kt
        show Steps p.tables e below (T101.setTop (mkF m 45 #[.val (.ref r0), .val (.int p1), .val (.int (31 : Int32)), .val (.int i)] [(.int p1), (.int (f i.toNatClampNeg))])) _
        refine XS.icmpYes X101.here hx rfl (pc0 := 45) (pc' := 57) rfl (hb hby d18_45) rfl (teq hc45_1).1 (by decide) (by decide) ?_
        exact kt
      refine own_run hgo104 ?_
      rw [own_s1 hk hc45_1]
      exact ⟨_, ⟨_, _, rfl, X101, N0, e101⟩, fun t kt => kt⟩
    · obtain ⟨v2, hv2⟩ : ∃ z : Int32, z = ((i + (1 : Int32)) &&& (31 : Int32)) := ⟨_, rfl⟩
      have hgo105 : ∀ t, Steps p.tables e below (T101.setTop (mkF m 38 #[.val (.ref r0), .val (.int p1), .val (.int (31 : Int32)), .val (.int v2)] [])) t → Steps p.tables e below (T101.setTop (mkF m 45 #[.val (.ref r0), .val (.int p1), .val (.int (31 : Int32)), .val (.int i)] [(.int p1), (.int (f i.toNatClampNeg))])) t := by
        intro t kt
        show Steps p.tables e below (T101.setTop (mkF m 45 #[.val (.ref r0), .val (.int p1), .val (.int (31 : Int32)), .val (.int i)] [(.int p1), (.int (f i.toNatClampNeg))])) _
        refine XS.icmpNo X101.here hx rfl (hb hby d18_45) rfl (feq hc45_1).1 ?_
        show Steps p.tables e below (T101.setTop (mkF m 48 #[.val (.ref r0), .val (.int p1), .val (.int (31 : Int32)), .val (.int i)] [])) _
        refine XS.iloadN X101.here hx rfl (hb hby d18_48) rfl ?_
        refine XS.iconst X101.here hx rfl (hb hby d18_49) ?_
        refine XS.iadd X101.here hx rfl (hb hby d18_50) rfl ?_
        show Steps p.tables e below (T101.setTop (mkF m 51 #[.val (.ref r0), .val (.int p1), .val (.int (31 : Int32)), .val (.int i)] [(.int (i + (1 : Int32)))])) _
        refine XS.iloadN X101.here hx rfl (hb hby d18_51) rfl ?_
        refine XS.iand X101.here hx rfl (hb hby d18_52) rfl ?_
        show Steps p.tables e below (T101.setTop (mkF m 53 #[.val (.ref r0), .val (.int p1), .val (.int (31 : Int32)), .val (.int i)] [(.int ((i + (1 : Int32)) &&& (31 : Int32)))])) _
        rw [← hv2]
        show Steps p.tables e below (T101.setTop (mkF m 53 #[.val (.ref r0), .val (.int p1), .val (.int (31 : Int32)), .val (.int i)] [(.int v2)])) _
        refine XS.istoreN X101.here hx rfl (hb hby d18_53) rfl (l' := #[.val (.ref r0), .val (.int p1), .val (.int (31 : Int32)), .val (.int v2)]) rfl ?_
        show Steps p.tables e below (T101.setTop (mkF m 54 #[.val (.ref r0), .val (.int p1), .val (.int (31 : Int32)), .val (.int v2)] [])) _
        refine XS.goto X101.here hx rfl (pc0 := 54) (pc' := 38) rfl (hb hby d18_54) (by decide) (by decide) ?_
        exact kt
      refine own_run hgo105 ?_
      exact ih _ _ _ v2 X101 N0 e101 Z0 K0 E_r0 F_slots A_ys (by rw [hv2]; exact own_and31 _) (by rw [hv2]; exact own_s2 hk hc45_1)
theorem pd14 : parseMethodDescriptor "(I)V" = some ⟨[.int], none⟩ := by decide +kernel
theorem d18_19 : decode prog_13_method_5_code 19 = .ok (.aload_n 0, 1) := by decide +kernel
theorem d18_20 : decode prog_13_method_5_code 20 = .ok (.getfield 40, 3) := by decide +kernel
theorem d18_23 : decode prog_13_method_5_code 23 = .ok (.arraylength, 1) := by decide +kernel
theorem d18_24 : decode prog_13_method_5_code 24 = .ok (.iconst 1, 1) := by decide +kernel
theorem d18_25 : decode prog_13_method_5_code 25 = .ok (.isub, 1) := by decide +kernel
theorem d18_26 : decode prog_13_method_5_code 26 = .ok (.istore_n 2, 1) := by decide +kernel
theorem d18_27 : decode prog_13_method_5_code 27 = .ok (.aload_n 0, 1) := by decide +kernel
theorem d18_28 : decode prog_13_method_5_code 28 = .ok (.aload_n 0, 1) := by decide +kernel
theorem d18_29 : decode prog_13_method_5_code 29 = .ok (.getfield 19, 3) := by decide +kernel
theorem d18_32 : decode prog_13_method_5_code 32 = .ok (.iload_n 1, 1) := by decide +kernel
theorem d18_33 : decode prog_13_method_5_code 33 = .ok (.laload, 1) := by decide +kernel
theorem d18_34 : decode prog_13_method_5_code 34 = .ok (.invokevirtual 64, 3) := by decide +kernel
theorem d18_37 : decode prog_13_method_5_code 37 = .ok (.istore_n 3, 1) := by decide +kernel
theorem d18_57 : decode prog_13_method_5_code 57 = .ok (.aload_n 0, 1) := by decide +kernel
theorem d18_58 : decode prog_13_method_5_code 58 = .ok (.iload_n 3, 1) := by decide +kernel
theorem d18_59 : decode prog_13_method_5_code 59 = .ok (.invokevirtual 78, 3) := by decide +kernel
theorem d18_62 : decode prog_13_method_5_code 62 = .ok (.aload_n 0, 1) := by decide +kernel
theorem d18_63 : decode prog_13_method_5_code 63 = .ok (.getfield 33, 3) := by decide +kernel
theorem d18_66 : decode prog_13_method_5_code 66 = .ok (.aload_n 0, 1) := by decide +kernel
theorem d18_67 : decode prog_13_method_5_code 67 = .ok (.dup, 1) := by decide +kernel
theorem d18_68 : decode prog_13_method_5_code 68 = .ok (.getfield 43, 3) := by decide +kernel
theorem d18_71 : decode prog_13_method_5_code 71 = .ok (.dup_x1, 1) := by decide +kernel
theorem d18_72 : decode prog_13_method_5_code 72 = .ok (.iconst 1, 1) := by decide +kernel
theorem d18_73 : decode prog_13_method_5_code 73 = .ok (.iadd, 1) := by decide +kernel
theorem d18_74 : decode prog_13_method_5_code 74 = .ok (.putfield 43, 3) := by decide +kernel
theorem d18_77 : decode prog_13_method_5_code 77 = .ok (.iload_n 1, 1) := by decide +kernel
theorem d18_78 : decode prog_13_method_5_code 78 = .ok (.iastore, 1) := by decide +kernel
theorem ef_rl (m : MethodId) (r0 : Addr) (p1 : Int32) : entryFrame m #[(.ref r0), (.int p1)] 4 = mkF m 0 #[.val (.ref r0), .val (.int p1), .unset, .unset] [] := by (first | (simp [entryFrame, mkF, argsToLocals, Value.category]; done) | rfl)
def Qrl (Z : State) (r0 : Addr) (p1 : Int32) (y1 : Addr) (y2 : Addr) (yo : Addr) (yh : Addr) (yf : Addr) (ys : Addr) (g1 : Nat → Int64) (g2 : Nat → Int64) (oc : Nat → Int64) (hd : Nat → Int32) (fr : Nat → Int32) (f : Nat → Int32) (u : Int32) (y : Int32) (n : Nat) (H : Nat → Int32) (ff : Nat → Int32) (h0 : Heap) (n0 : Nat) (v : Option Value) (h : Heap) (L : List Loc) : Prop := v = none ∧ Fr n0 L ∧ Keep h0 h [yh, ys, r0, yf] ∧ own_AI Z h yh .int 16 (own_up hd (p1.toNatClampNeg) ((hd p1.toNatClampNeg) - (1 : Int32))) ∧ own_AI Z h ys .int 32 ff ∧ Exa Z h r0 "com/example/upper_falls/upperfalls/HeldKeys" ∧ Fld Z h r0 "com/example/upper_falls/upperfalls/HeldKeys" "hash1" "[J" (.ref y1) ∧ Fld Z h r0 "com/example/upper_falls/upperfalls/HeldKeys" "hash2" "[J" (.ref y2) ∧ Fld Z h r0 "com/example/upper_falls/upperfalls/HeldKeys" "occurrences" "[J" (.ref yo) ∧ Fld Z h r0 "com/example/upper_falls/upperfalls/HeldKeys" "holders" "[I" (.ref yh) ∧ Fld Z h r0 "com/example/upper_falls/upperfalls/HeldKeys" "free" "[I" (.ref yf) ∧ Fld Z h r0 "com/example/upper_falls/upperfalls/HeldKeys" "slots" "[I" (.ref ys) ∧ Fld Z h r0 "com/example/upper_falls/upperfalls/HeldKeys" "limit" "I" (.int (16 : Int32)) ∧ Fld Z h r0 "com/example/upper_falls/upperfalls/HeldKeys" "used" "I" (.int u) ∧ Fld Z h r0 "com/example/upper_falls/upperfalls/HeldKeys" "freeCount" "I" (.int (1 : Int32)) ∧ own_AI Z h yf .int 16 (own_up fr 0 p1)
set_option maxRecDepth 65536 in
set_option maxHeartbeats 40000000 in
theorem rmrl (l : Launch) (Z : State) (a0 : Array Value) (hw : ∀ d ∈ tables_1, d.before a0 Z = true) (ws : List Jvm.Cond) (r0 : Addr) (p1 : Int32) (y1 : Addr) (y2 : Addr) (yo : Addr) (yh : Addr) (yf : Addr) (ys : Addr) (g1 : Nat → Int64) (g2 : Nat → Int64) (oc : Nat → Int64) (hd : Nat → Int32) (fr : Nat → Int32) (f : Nat → Int32) (u : Int32) (y : Int32) (n : Nat) (H : Nat → Int32) (ff : Nat → Int32) (h0 : Heap) (n0 : Nat) (Z0 : n0 ≤ h0.size) (E_r0 : Exa Z h0 r0 "com/example/upper_falls/upperfalls/HeldKeys") (F_hash1 : Fld Z h0 r0 "com/example/upper_falls/upperfalls/HeldKeys" "hash1" "[J" (.ref y1)) (F_hash2 : Fld Z h0 r0 "com/example/upper_falls/upperfalls/HeldKeys" "hash2" "[J" (.ref y2)) (F_occurrences : Fld Z h0 r0 "com/example/upper_falls/upperfalls/HeldKeys" "occurrences" "[J" (.ref yo)) (F_holders : Fld Z h0 r0 "com/example/upper_falls/upperfalls/HeldKeys" "holders" "[I" (.ref yh)) (F_free : Fld Z h0 r0 "com/example/upper_falls/upperfalls/HeldKeys" "free" "[I" (.ref yf)) (F_slots : Fld Z h0 r0 "com/example/upper_falls/upperfalls/HeldKeys" "slots" "[I" (.ref ys)) (F_limit : Fld Z h0 r0 "com/example/upper_falls/upperfalls/HeldKeys" "limit" "I" (.int (16 : Int32))) (F_used : Fld Z h0 r0 "com/example/upper_falls/upperfalls/HeldKeys" "used" "I" (.int u)) (F_freeCount : Fld Z h0 r0 "com/example/upper_falls/upperfalls/HeldKeys" "freeCount" "I" (.int (0 : Int32))) (A_y1 : own_AJ Z h0 y1 .long 16 g1) (A_y2 : own_AJ Z h0 y2 .long 16 g2) (A_yo : own_AJ Z h0 yo .long 16 oc) (A_yh : own_AI Z h0 yh .int 16 hd) (A_yf : own_AI Z h0 yf .int 16 fr) (A_ys : own_AI Z h0 ys .int 32 f) (hu : (¬ p1 < 0 ∧ p1.toNatClampNeg < 16)) (hz : ((hd p1.toNatClampNeg) - (1 : Int32)) = (0 : Int32)) (hV : own_V n f) (hn3 : n ≤ 3) (hH : own_HH n g1 H) (hs : own_slt f p1 8 (((g1 p1.toNatClampNeg).toInt32) &&& (31 : Int32)) = some y) (hk : own_rms H 8 f y ((y + (1 : Int32)) &&& (31 : Int32)) = some ff) (hne_r0_yh : r0 ≠ yh) (hne_y1_yh : y1 ≠ yh) (hne_y2_yh : y2 ≠ yh) (hne_yo_yh : yo ≠ yh) (hne_yf_yh : yf ≠ yh) (hne_ys_yh : ys ≠ yh) (g_yh : n0 ≤ yh) (g_ys : n0 ≤ ys) (hne_r0_ys : r0 ≠ ys) (hne_y1_ys : y1 ≠ ys) (hne_y2_ys : y2 ≠ ys) (hne_yo_ys : yo ≠ ys) (hne_yf_ys : yf ≠ ys) (hne_yh_ys : yh ≠ ys) (hne_y1_r0 : y1 ≠ r0) (hne_y2_r0 : y2 ≠ r0) (hne_yo_r0 : yo ≠ r0) (hne_yf_r0 : yf ≠ r0) (hne_yh_r0 : yh ≠ r0) (hne_ys_r0 : ys ≠ r0) (g_r0 : n0 ≤ r0) (hne_r0_yf : r0 ≠ yf) (hne_y1_yf : y1 ≠ yf) (hne_y2_yf : y2 ≠ yf) (hne_yo_yf : yo ≠ yf) (hne_yh_yf : yh ≠ yf) (hne_ys_yf : ys ≠ yf) (g_yf : n0 ≤ yf) :
    MetFree l (⟨"com/example/upper_falls/upperfalls/HeldKeys", "release", "(I)V"⟩ : MethodName) (head1 (Jvm.Cond.code (⟨"com/example/upper_falls/upperfalls/HeldKeys", "release", "(I)V"⟩ : MethodName) prog_13_method_5_code 4 none :: ws) ({ frames := 2, cells := 0, slots := 0, locals := 58 } : Room)) (fun a U => a = #[(.ref r0), (.int p1)] ∧ Z.Warmed39 U.vm ∧ U.heap = h0) (fun _ _ _ _ _ => True) (fun _ U o U' => ∃ v L, o = .returned v ∧ Qrl Z r0 p1 y1 y2 yo yh yf ys g1 g2 oc hd fr f u y n H ff h0 n0 v U'.heap L ∧ FrameEnd U o U' L ({ frames := 2, cells := 0, slots := 0, locals := 58 } : Room).cells ({ frames := 2, cells := 0, slots := 0, locals := 58 } : Room).slots) := by
  refine MetFree.of_bodySF (plainFor_of_name pn9) hisR ?_
  intro p e s m args below meth c s₁ Bd hml0 hP hK
  obtain ⟨rfl, hZ, hh⟩ := hP
  have hx := Bd.exec
  have hby := Bd.bytes
  have hml : c.maxLocals = 4 := hml0
  have hown : s.vm.findClass "com/example/upper_falls/upperfalls/HeldKeys" = some m.cls := findClass_of_methodNamed Bd.named
  have hnm := (name_of_methodNamed Bd.named Bd.method).1
  have X0 : Stand p l e ({ frames := 2, cells := 0, slots := 0, locals := 58 } : Room) s m #[(.ref r0), (.int p1)] below meth c s₁ [] 0 0 := Stand.of_body Bd
  have e0 : s₁.heap = h0 := by rw [← hh, Bd.state]; rfl
  have N0 := Fr.nil n0
  have K0 : Keep h0 h0 [yh, ys, r0, yf] := Keep.refl h0 _
  show own_Go p e below s (Qrl Z r0 p1 y1 y2 yo yh yf ys g1 g2 oc hd fr f u y n H ff h0 n0) ({ frames := 2, cells := 0, slots := 0, locals := 58 } : Room).cells ({ frames := 2, cells := 0, slots := 0, locals := 58 } : Room).slots (s₁.setTop (entryFrame m #[(.ref r0), (.int p1)] 4))
  refine own_go (fun t k => castTop (ef_rl m r0 p1) k) ?_
  obtain ⟨T101, X101, e101, st101⟩ := getF X0 hx hZ hown (host := "") (Or.inl (own_wd hw 46 rfl)) Via.refl e0 F_holders (g := (mkF m 1 #[.val (.ref r0), .val (.int p1), .unset, .unset] [(.ref r0)])) rfl rfl (hb hby d18_1)
  have hin6_102 : ¬ p1 < 0 ∧ p1.toNatClampNeg < 16 := hu
  obtain ⟨v1, hv1⟩ : ∃ z : Int32, z = ((hd p1.toNatClampNeg) - (1 : Int32)) := ⟨_, rfl⟩
  have hin9_103 : ¬ p1 < 0 ∧ p1.toNatClampNeg < 16 := hu
  obtain ⟨T104, h104, X104, e104, W104, B104, st104⟩ := own_stI X101 hx hZ e101 A_yh (j := p1) (x := v1) hin9_103 (g := (mkF m 9 #[.val (.ref r0), .val (.int p1), .unset, .unset] [(.int v1), (.int p1), (.ref yh)])) rfl rfl (hb hby d18_9)
  obtain ⟨v2, hv2⟩ : ∃ z : Nat → Int32, z = (own_up hd (p1.toNatClampNeg) v1) := ⟨_, rfl⟩
  have B104n : own_AI Z h104 yh .int 16 v2 := by rw [hv2]; exact B104
  have F105 := E_r0.wr W104
  have F106 := F_hash1.other W104 (Or.inl hne_r0_yh)
  have F107 := F_hash2.other W104 (Or.inl hne_r0_yh)
  have F108 := F_occurrences.other W104 (Or.inl hne_r0_yh)
  have F109 := F_holders.other W104 (Or.inl hne_r0_yh)
  have F110 := F_free.other W104 (Or.inl hne_r0_yh)
  have F111 := F_slots.other W104 (Or.inl hne_r0_yh)
  have F112 := F_limit.other W104 (Or.inl hne_r0_yh)
  have F113 := F_used.other W104 (Or.inl hne_r0_yh)
  have F114 := F_freeCount.other W104 (Or.inl hne_r0_yh)
  have F115 := A_y1.other W104 hne_y1_yh
  have F116 := A_y2.other W104 hne_y2_yh
  have F117 := A_yo.other W104 hne_yo_yh
  have F118 := A_yf.other W104 hne_yf_yh
  have F119 := A_ys.other W104 hne_ys_yh
  have Z120 : n0 ≤ h104.size := Nat.le_trans Z0 (Keep.of_wr W104).1
  have K121 : Keep h0 h104 [yh, ys, r0, yf] := K0.wr W104 (Or.inl (List.mem_of_getElem? (i := 0) rfl))
  have N122 := Fr.snoc X104 N0 g_yh
  obtain ⟨T123, X123, e123, st123⟩ := getF X104 hx hZ hown (host := "") (Or.inl (own_wd hw 46 rfl)) Via.refl e104 F109 (g := (mkF m 11 #[.val (.ref r0), .val (.int p1), .unset, .unset] [(.ref r0)])) rfl rfl (hb hby d18_11)
  have hin15_124 : ¬ p1 < 0 ∧ p1.toNatClampNeg < 16 := hu
  obtain ⟨T125, X125, e125, st125⟩ := getF X123 hx hZ hown (host := "") (Or.inl (own_wd hw 69 rfl)) Via.refl e123 F111 (g := (mkF m 20 #[.val (.ref r0), .val (.int p1), .unset, .unset] [(.ref r0)])) rfl rfl (hb hby d18_20)
  obtain ⟨T126, X126, e126, st126⟩ := getF X125 hx hZ hown (host := "") (Or.inl (own_wd hw 39 rfl)) Via.refl e125 F106 (g := (mkF m 29 #[.val (.ref r0), .val (.int p1), .val (.int (31 : Int32)), .unset] [(.ref r0), (.ref r0)])) rfl rfl (hb hby d18_29)
  have hin33_127 : ¬ p1 < 0 ∧ p1.toNatClampNeg < 16 := hu
  obtain ⟨v3, hv3⟩ : ∃ z : Int64, z = (g1 p1.toNatClampNeg) := ⟨_, rfl⟩
  obtain ⟨cq128, q128, q128'⟩ := F105.cell
  obtain ⟨_, _, ⟨T128, L128, k128, n128⟩, -, X128, ⟨Lc128, hQ128, l128, y128, z128⟩, st128⟩ := X126.privateBack hx (y := (⟨"com/example/upper_falls/upperfalls/HeldKeys", "home", "(J)I"⟩ : MethodName)) hown (mvT hZ (own_wd hw 86 rfl)) (mvT hZ (own_wd hw 87 rfl)) (own_selPriv (mvT hZ (own_wd hw 26 rfl)) (mvT hZ (own_wd hw 87 rfl)) (Cond.privateMethod_at (mvP hZ (own_wd hw 88 rfl) (args := #[]))) (by decide)) (Cond.privateMethod_at (mvP hZ (own_wd hw 88 rfl) (args := #[]))) (mvT hZ (own_wd hw 89 rfl)) (by decide) (backOf (W := 0) (rmho l Z a0 hw [] r0 v3 ys f h104 n0 Z120 F111 F119) hZ (own_wd hw 89 rfl) (own_wd hw 27 rfl) (by decide) (by decide)) (g := (mkF m 34 #[.val (.ref r0), .val (.int p1), .val (.int (31 : Int32)), .unset] [(.long v3), (.ref r0)])) rfl (by rw [hml]; rfl) (Steps.refl _) (a := r0) (by rw [e126]; exact q128) q128' (argsL := [(.long v3)]) (rest := []) (lenOf pd12 rfl) rfl (by show 2 * 0 + _ ≤ _; exact Nat.le_of_eq rfl) (hb hby d18_34) (fun _ _ => ⟨rfl, e126, (by decide : 0 + 0 ≤ _), (by decide : 0 + 0 ≤ _)⟩)
  dsimp only [Pt.U, Pt.locs, Pt.cells, Pt.slots] at X128 l128 y128 z128 st128 hQ128
  subst l128 y128 z128
  obtain ⟨rfl, N128q, e128⟩ := hQ128
  have N128 := Fr.app N122 N128q
  obtain ⟨v4, hv4⟩ : ∃ z : Int32, z = ((v3.toInt32) &&& (31 : Int32)) := ⟨_, rfl⟩
  obtain ⟨_, ⟨T1, lc1, rfl, X1, N1, e1⟩, stR⟩ := own_sltL r0 p1 ys f y hx hZ hw hby hml hown 8 _ _ _ v4 X128 N128 e128 Z120 (Keep.refl _ _) F105 F111 F119 (by rw [hv4]; exact own_and31 _) (by rw [hv4, hv3]; exact hs)
  obtain ⟨cq129, q129, q129'⟩ := F105.cell
  obtain ⟨_, _, ⟨T129, L129, k129, n129⟩, -, X129, ⟨Lc129, hQ129, l129, y129, z129⟩, st129⟩ := X1.privateBack hx (y := (⟨"com/example/upper_falls/upperfalls/HeldKeys", "removeSlot", "(I)V"⟩ : MethodName)) hown (mvT hZ (own_wd hw 109 rfl)) (mvT hZ (own_wd hw 110 rfl)) (own_selPriv (mvT hZ (own_wd hw 26 rfl)) (mvT hZ (own_wd hw 110 rfl)) (Cond.privateMethod_at (mvP hZ (own_wd hw 111 rfl) (args := #[]))) (by decide)) (Cond.privateMethod_at (mvP hZ (own_wd hw 111 rfl) (args := #[]))) (mvT hZ (own_wd hw 112 rfl)) (by decide) (backOf (W := 0) (rmrs l Z a0 hw [] r0 y ys y1 g1 H ff n f h104 n0 Z120 F105 F111 F106 F119 F115 g_ys hne_r0_ys hne_y1_ys (hH : own_HH n g1 H) (hn3 : n ≤ 3) (hV : own_V n f) (own_sB hs (own_and31 _) : (¬ y < 0 ∧ y.toNatClampNeg < 32)) (hk : own_rms H 8 f y ((y + (1 : Int32)) &&& (31 : Int32)) = some ff)) hZ (own_wd hw 112 rfl) (own_wd hw 27 rfl) (by decide) (by decide)) (g := (mkF m 59 #[.val (.ref r0), .val (.int p1), .val (.int (31 : Int32)), .val (.int y)] [(.int y), (.ref r0)])) rfl (by rw [hml]; rfl) (Steps.refl _) (a := r0) (by rw [e1]; exact q129) q129' (argsL := [(.int y)]) (rest := []) (lenOf pd14 rfl) rfl (by show 2 * 0 + _ ≤ _; exact Nat.le_of_eq rfl) (hb hby d18_59) (fun _ _ => ⟨rfl, e1, (by decide : 0 + 0 ≤ _), (by decide : 0 + 0 ≤ _)⟩)
  dsimp only [Pt.U, Pt.locs, Pt.cells, Pt.slots] at X129 l129 y129 z129 st129 hQ129
  subst l129 y129 z129
  obtain ⟨rfl, N129q, K129q, F129_0⟩ := hQ129
  have F130 := F105.keep K129q
  have F131 := F106.keep K129q (ninS hne_r0_ys nin0)
  have F132 := F107.keep K129q (ninS hne_r0_ys nin0)
  have F133 := F108.keep K129q (ninS hne_r0_ys nin0)
  have F134 := F109.keep K129q (ninS hne_r0_ys nin0)
  have F135 := F110.keep K129q (ninS hne_r0_ys nin0)
  have F136 := F111.keep K129q (ninS hne_r0_ys nin0)
  have F137 := F112.keep K129q (ninS hne_r0_ys nin0)
  have F138 := F113.keep K129q (ninS hne_r0_ys nin0)
  have F139 := F114.keep K129q (ninS hne_r0_ys nin0)
  have F140 := F115.keep K129q (ninS hne_y1_ys nin0)
  have F141 := F116.keep K129q (ninS hne_y2_ys nin0)
  have F142 := F117.keep K129q (ninS hne_yo_ys nin0)
  have F143 := F118.keep K129q (ninS hne_yf_ys nin0)
  have F144 := B104n.keep K129q (ninS hne_yh_ys nin0)
  have Z145 : n0 ≤ T129.heap.size := Nat.le_trans Z120 K129q.1
  have K146 : Keep h0 T129.heap [yh, ys, r0, yf] := K121.trans K129q (allS (Or.inl (List.mem_of_getElem? (i := 1) rfl)) all0)
  have N129 := Fr.app N1 N129q
  obtain ⟨T147, X147, e147, st147⟩ := getF X129 hx hZ hown (host := "") (Or.inl (own_wd hw 48 rfl)) Via.refl (rfl : T129.heap = T129.heap) F135 (g := (mkF m 63 #[.val (.ref r0), .val (.int p1), .val (.int (31 : Int32)), .val (.int y)] [(.ref r0)])) rfl rfl (hb hby d18_63)
  obtain ⟨T148, X148, e148, st148⟩ := getF X147 hx hZ hown (host := "") (Or.inl (own_wd hw 90 rfl)) Via.refl e147 F139 (g := (mkF m 68 #[.val (.ref r0), .val (.int p1), .val (.int (31 : Int32)), .val (.int y)] [(.ref r0), (.ref r0), (.ref yf)])) rfl rfl (hb hby d18_68)
  obtain ⟨T149, h149, X149, e149, W149, st149⟩ := putF X148 hx hZ hown (host := "") (Or.inl (own_wd hw 90 rfl)) Via.refl e148 F139 F130 (Or.inl (own_wd hw 91 rfl)) (own_wd hw 26 rfl) (ty := .int) (by decide) rfl rfl (g := (mkF m 74 #[.val (.ref r0), .val (.int p1), .val (.int (31 : Int32)), .val (.int y)] [(.int (1 : Int32)), (.ref r0), (.int (0 : Int32)), (.ref yf)])) rfl rfl (hb hby d18_74)
  have F150 := F130.wr W149
  have F151 := F131.other W149 (Or.inr (slot_ne (Or.inl (own_wd hw 40 rfl)) (Or.inl (own_wd hw 91 rfl)) (by decide) (t := (.array .long)) (t' := .int) (by decide) (by decide)))
  have F152 := F132.other W149 (Or.inr (slot_ne (Or.inl (own_wd hw 42 rfl)) (Or.inl (own_wd hw 91 rfl)) (by decide) (t := (.array .long)) (t' := .int) (by decide) (by decide)))
  have F153 := F133.other W149 (Or.inr (slot_ne (Or.inl (own_wd hw 44 rfl)) (Or.inl (own_wd hw 91 rfl)) (by decide) (t := (.array .long)) (t' := .int) (by decide) (by decide)))
  have F154 := F134.other W149 (Or.inr (slot_ne (Or.inl (own_wd hw 47 rfl)) (Or.inl (own_wd hw 91 rfl)) (by decide) (t := (.array .int)) (t' := .int) (by decide) (by decide)))
  have F155 := F135.other W149 (Or.inr (slot_ne (Or.inl (own_wd hw 49 rfl)) (Or.inl (own_wd hw 91 rfl)) (by decide) (t := (.array .int)) (t' := .int) (by decide) (by decide)))
  have F156 := F136.other W149 (Or.inr (slot_ne (Or.inl (own_wd hw 70 rfl)) (Or.inl (own_wd hw 91 rfl)) (by decide) (t := (.array .int)) (t' := .int) (by decide) (by decide)))
  have F157 := F137.other W149 (Or.inr (slot_ne (Or.inr (own_wd hw 33 rfl)) (Or.inl (own_wd hw 91 rfl)) (by decide) (t := .int) (t' := .int) (by decide) (by decide)))
  have F158 := F138.other W149 (Or.inr (slot_ne (Or.inl (own_wd hw 93 rfl)) (Or.inl (own_wd hw 91 rfl)) (by decide) (t := .int) (t' := .int) (by decide) (by decide)))
  have F159 := F139.same W149
  have F160 := F140.other W149 hne_y1_r0
  have F161 := F141.other W149 hne_y2_r0
  have F162 := F142.other W149 hne_yo_r0
  have F163 := F143.other W149 hne_yf_r0
  have F164 := F144.other W149 hne_yh_r0
  have F165 := F129_0.other W149 hne_ys_r0
  have Z166 : n0 ≤ h149.size := Nat.le_trans Z145 (Keep.of_wr W149).1
  have K167 : Keep h0 h149 [yh, ys, r0, yf] := K146.wr W149 (Or.inl (List.mem_of_getElem? (i := 2) rfl))
  have N168 := Fr.snoc X149 N129 g_r0
  have hin78_169 : ¬ (0 : Int32) < 0 ∧ (0 : Int32).toNatClampNeg < 16 := by decide
  obtain ⟨T170, h170, X170, e170, W170, B170, st170⟩ := own_stI X149 hx hZ e149 F163 (j := (0 : Int32)) (x := p1) hin78_169 (g := (mkF m 78 #[.val (.ref r0), .val (.int p1), .val (.int (31 : Int32)), .val (.int y)] [(.int p1), (.int (0 : Int32)), (.ref yf)])) rfl rfl (hb hby d18_78)
  obtain ⟨v5, hv5⟩ : ∃ z : Nat → Int32, z = (own_up fr 0 p1) := ⟨_, rfl⟩
  have B170n : own_AI Z h170 yf .int 16 v5 := by rw [hv5]; exact B170
  have F171 := F150.wr W170
  have F172 := F151.other W170 (Or.inl hne_r0_yf)
  have F173 := F152.other W170 (Or.inl hne_r0_yf)
  have F174 := F153.other W170 (Or.inl hne_r0_yf)
  have F175 := F154.other W170 (Or.inl hne_r0_yf)
  have F176 := F155.other W170 (Or.inl hne_r0_yf)
  have F177 := F156.other W170 (Or.inl hne_r0_yf)
  have F178 := F157.other W170 (Or.inl hne_r0_yf)
  have F179 := F158.other W170 (Or.inl hne_r0_yf)
  have F180 := F159.other W170 (Or.inl hne_r0_yf)
  have F181 := F160.other W170 hne_y1_yf
  have F182 := F161.other W170 hne_y2_yf
  have F183 := F162.other W170 hne_yo_yf
  have F184 := F164.other W170 hne_yh_yf
  have F185 := F165.other W170 hne_ys_yf
  have Z186 : n0 ≤ h170.size := Nat.le_trans Z166 (Keep.of_wr W170).1
  have K187 : Keep h0 h170 [yh, ys, r0, yf] := K167.wr W170 (Or.inl (List.mem_of_getElem? (i := 3) rfl))
  have N188 := Fr.snoc X170 N168 g_yf
  have hgo189 : ∀ t, Steps p.tables e below (T170.setTop (mkF m 79 #[.val (.ref r0), .val (.int p1), .val (.int (31 : Int32)), .val (.int y)] [])) t → Steps p.tables e below (s₁.setTop (mkF m 0 #[.val (.ref r0), .val (.int p1), .unset, .unset] [])) t := by
    intro t kt
    show Steps p.tables e below (s₁.setTop (mkF m 0 #[.val (.ref r0), .val (.int p1), .unset, .unset] [])) _
    refine XS.aloadN X0.here hx rfl (hb hby d18_0) rfl rfl ?_
    show Steps p.tables e below (s₁.setTop (mkF m 1 #[.val (.ref r0), .val (.int p1), .unset, .unset] [(.ref r0)])) _
    refine st101 _ ?_
    show Steps p.tables e below (T101.setTop (mkF m 4 #[.val (.ref r0), .val (.int p1), .unset, .unset] [(.ref yh)])) _
    refine XS.iloadN X101.here hx rfl (hb hby d18_4) rfl ?_
    show Steps p.tables e below (T101.setTop (mkF m 5 #[.val (.ref r0), .val (.int p1), .unset, .unset] [(.int p1), (.ref yh)])) _
    jvm_step X101.here [X101.here.top, hx, (hb hby d18_5), Value.category]
    show Steps p.tables e below (T101.setTop (mkF m 6 #[.val (.ref r0), .val (.int p1), .unset, .unset] [(.int p1), (.ref yh), (.int p1), (.ref yh)])) _
    refine own_ldI X101 hx hZ e101 A_yh (j := p1) hin6_102 (g := (mkF m 6 #[.val (.ref r0), .val (.int p1), .unset, .unset] [(.int p1), (.ref yh), (.int p1), (.ref yh)])) rfl rfl (hb hby d18_6) _ ?_
    show Steps p.tables e below (T101.setTop (mkF m 7 #[.val (.ref r0), .val (.int p1), .unset, .unset] [(.int (hd p1.toNatClampNeg)), (.int p1), (.ref yh)])) _
    refine XS.iconst X101.here hx rfl (hb hby d18_7) ?_
    refine XS.isub X101.here hx rfl (hb hby d18_8) rfl ?_
    show Steps p.tables e below (T101.setTop (mkF m 9 #[.val (.ref r0), .val (.int p1), .unset, .unset] [(.int ((hd p1.toNatClampNeg) - (1 : Int32))), (.int p1), (.ref yh)])) _
    rw [← hv1]
    refine st104 _ ?_
    show Steps p.tables e below (T104.setTop (mkF m 10 #[.val (.ref r0), .val (.int p1), .unset, .unset] [])) _
    refine XS.aloadN X104.here hx rfl (hb hby d18_10) rfl rfl ?_
    show Steps p.tables e below (T104.setTop (mkF m 11 #[.val (.ref r0), .val (.int p1), .unset, .unset] [(.ref r0)])) _
    refine st123 _ ?_
    show Steps p.tables e below (T123.setTop (mkF m 14 #[.val (.ref r0), .val (.int p1), .unset, .unset] [(.ref yh)])) _
    refine XS.iloadN X123.here hx rfl (hb hby d18_14) rfl ?_
    show Steps p.tables e below (T123.setTop (mkF m 15 #[.val (.ref r0), .val (.int p1), .unset, .unset] [(.int p1), (.ref yh)])) _
    refine own_ldI X123 hx hZ e123 B104n (j := p1) hin15_124 (g := (mkF m 15 #[.val (.ref r0), .val (.int p1), .unset, .unset] [(.int p1), (.ref yh)])) rfl rfl (hb hby d18_15) _ ?_
    show Steps p.tables e below (T123.setTop (mkF m 16 #[.val (.ref r0), .val (.int p1), .unset, .unset] [(.int (v2 p1.toNatClampNeg))])) _
    refine XS.ifNo X123.here hx rfl (hb hby d18_16) rfl ((if0 _ _).trans (teq (by rw [hv2, own_upS, hv1]; exact hz)).2) ?_
    show Steps p.tables e below (T123.setTop (mkF m 19 #[.val (.ref r0), .val (.int p1), .unset, .unset] [])) _
    refine XS.aloadN X123.here hx rfl (hb hby d18_19) rfl rfl ?_
    show Steps p.tables e below (T123.setTop (mkF m 20 #[.val (.ref r0), .val (.int p1), .unset, .unset] [(.ref r0)])) _
    refine st125 _ ?_
    show Steps p.tables e below (T125.setTop (mkF m 23 #[.val (.ref r0), .val (.int p1), .unset, .unset] [(.ref ys)])) _
    refine own_lenI X125 hx hZ e125 F119 (g := (mkF m 23 #[.val (.ref r0), .val (.int p1), .unset, .unset] [(.ref ys)])) rfl rfl (hb hby d18_23) _ ?_
    show Steps p.tables e below (T125.setTop (mkF m 24 #[.val (.ref r0), .val (.int p1), .unset, .unset] [(.int (32 : Int32))])) _
    refine XS.iconst X125.here hx rfl (hb hby d18_24) ?_
    refine XS.isub X125.here hx rfl (hb hby d18_25) rfl ?_
    show Steps p.tables e below (T125.setTop (mkF m 26 #[.val (.ref r0), .val (.int p1), .unset, .unset] [(.int (31 : Int32))])) _
    refine XS.istoreN X125.here hx rfl (hb hby d18_26) rfl (l' := #[.val (.ref r0), .val (.int p1), .val (.int (31 : Int32)), .unset]) rfl ?_
    show Steps p.tables e below (T125.setTop (mkF m 27 #[.val (.ref r0), .val (.int p1), .val (.int (31 : Int32)), .unset] [])) _
    refine XS.aloadN X125.here hx rfl (hb hby d18_27) rfl rfl ?_
    refine XS.aloadN X125.here hx rfl (hb hby d18_28) rfl rfl ?_
    show Steps p.tables e below (T125.setTop (mkF m 29 #[.val (.ref r0), .val (.int p1), .val (.int (31 : Int32)), .unset] [(.ref r0), (.ref r0)])) _
    refine st126 _ ?_
    show Steps p.tables e below (T126.setTop (mkF m 32 #[.val (.ref r0), .val (.int p1), .val (.int (31 : Int32)), .unset] [(.ref y1), (.ref r0)])) _
    refine XS.iloadN X126.here hx rfl (hb hby d18_32) rfl ?_
    show Steps p.tables e below (T126.setTop (mkF m 33 #[.val (.ref r0), .val (.int p1), .val (.int (31 : Int32)), .unset] [(.int p1), (.ref y1), (.ref r0)])) _
    refine own_ldJ X126 hx hZ e126 F115 (j := p1) hin33_127 (g := (mkF m 33 #[.val (.ref r0), .val (.int p1), .val (.int (31 : Int32)), .unset] [(.int p1), (.ref y1), (.ref r0)])) rfl rfl (hb hby d18_33) _ ?_
    show Steps p.tables e below (T126.setTop (mkF m 34 #[.val (.ref r0), .val (.int p1), .val (.int (31 : Int32)), .unset] [(.long (g1 p1.toNatClampNeg)), (.ref r0)])) _
    rw [← hv3]
    show Steps p.tables e below (T126.setTop (mkF m 34 #[.val (.ref r0), .val (.int p1), .val (.int (31 : Int32)), .unset] [(.long v3), (.ref r0)])) _
    refine st128.trans ?_
    show Steps p.tables e below (T128.setTop (mkF m 37 #[.val (.ref r0), .val (.int p1), .val (.int (31 : Int32)), .unset] [(.int ((v3.toInt32) &&& (31 : Int32)))])) _
    rw [← hv4]
    show Steps p.tables e below (T128.setTop (mkF m 37 #[.val (.ref r0), .val (.int p1), .val (.int (31 : Int32)), .unset] [(.int v4)])) _
    refine XS.istoreN X128.here hx rfl (hb hby d18_37) rfl (l' := #[.val (.ref r0), .val (.int p1), .val (.int (31 : Int32)), .val (.int v4)]) rfl ?_
    show Steps p.tables e below (T128.setTop (mkF m 38 #[.val (.ref r0), .val (.int p1), .val (.int (31 : Int32)), .val (.int v4)] [])) _
    refine stR _ ?_
    show Steps p.tables e below (T1.setTop (mkF m 57 #[.val (.ref r0), .val (.int p1), .val (.int (31 : Int32)), .val (.int y)] [])) _
    refine XS.aloadN X1.here hx rfl (hb hby d18_57) rfl rfl ?_
    refine XS.iloadN X1.here hx rfl (hb hby d18_58) rfl ?_
    show Steps p.tables e below (T1.setTop (mkF m 59 #[.val (.ref r0), .val (.int p1), .val (.int (31 : Int32)), .val (.int y)] [(.int y), (.ref r0)])) _
    refine st129.trans ?_
    show Steps p.tables e below (T129.setTop (mkF m 62 #[.val (.ref r0), .val (.int p1), .val (.int (31 : Int32)), .val (.int y)] [])) _
    refine XS.aloadN X129.here hx rfl (hb hby d18_62) rfl rfl ?_
    show Steps p.tables e below (T129.setTop (mkF m 63 #[.val (.ref r0), .val (.int p1), .val (.int (31 : Int32)), .val (.int y)] [(.ref r0)])) _
    refine st147 _ ?_
    show Steps p.tables e below (T147.setTop (mkF m 66 #[.val (.ref r0), .val (.int p1), .val (.int (31 : Int32)), .val (.int y)] [(.ref yf)])) _
    refine XS.aloadN X147.here hx rfl (hb hby d18_66) rfl rfl ?_
    refine XS.dup X147.here hx rfl (hb hby d18_67) rfl rfl ?_
    show Steps p.tables e below (T147.setTop (mkF m 68 #[.val (.ref r0), .val (.int p1), .val (.int (31 : Int32)), .val (.int y)] [(.ref r0), (.ref r0), (.ref yf)])) _
    refine st148 _ ?_
    show Steps p.tables e below (T148.setTop (mkF m 71 #[.val (.ref r0), .val (.int p1), .val (.int (31 : Int32)), .val (.int y)] [(.int (0 : Int32)), (.ref r0), (.ref yf)])) _
    refine XS.dupX1 X148.here hx rfl (hb hby d18_71) rfl rfl rfl ?_
    show Steps p.tables e below (T148.setTop (mkF m 72 #[.val (.ref r0), .val (.int p1), .val (.int (31 : Int32)), .val (.int y)] [(.int (0 : Int32)), (.ref r0), (.int (0 : Int32)), (.ref yf)])) _
    refine XS.iconst X148.here hx rfl (hb hby d18_72) ?_
    refine XS.iadd X148.here hx rfl (hb hby d18_73) rfl ?_
    show Steps p.tables e below (T148.setTop (mkF m 74 #[.val (.ref r0), .val (.int p1), .val (.int (31 : Int32)), .val (.int y)] [(.int (1 : Int32)), (.ref r0), (.int (0 : Int32)), (.ref yf)])) _
    refine st149 _ ?_
    show Steps p.tables e below (T149.setTop (mkF m 77 #[.val (.ref r0), .val (.int p1), .val (.int (31 : Int32)), .val (.int y)] [(.int (0 : Int32)), (.ref yf)])) _
    refine XS.iloadN X149.here hx rfl (hb hby d18_77) rfl ?_
    show Steps p.tables e below (T149.setTop (mkF m 78 #[.val (.ref r0), .val (.int p1), .val (.int (31 : Int32)), .val (.int y)] [(.int p1), (.int (0 : Int32)), (.ref yf)])) _
    refine st170 _ ?_
    exact kt
  refine own_go hgo189 ?_
  exact own_retV X170 hx Bd.returns Bd.notSynchronized (hb hby d18_79) (by decide) (by decide) (by rw [e170]; exact ⟨(by rfl), N188, K187, (by subst hv5 hv4 hv3 hv2 hv1; exact F184), (by subst hv5 hv4 hv3 hv2 hv1; exact F185), F171, (by subst hv5 hv4 hv3 hv2 hv1; exact F172), (by subst hv5 hv4 hv3 hv2 hv1; exact F173), (by subst hv5 hv4 hv3 hv2 hv1; exact F174), (by subst hv5 hv4 hv3 hv2 hv1; exact F175), (by subst hv5 hv4 hv3 hv2 hv1; exact F176), (by subst hv5 hv4 hv3 hv2 hv1; exact F177), (by subst hv5 hv4 hv3 hv2 hv1; exact F178), (by subst hv5 hv4 hv3 hv2 hv1; exact F179), (by subst hv5 hv4 hv3 hv2 hv1; exact F180), (by subst hv5 hv4 hv3 hv2 hv1; exact B170n)⟩)
theorem pd15 : parseMethodDescriptor "(II)J" = some ⟨[.int, .int], some .long⟩ := by decide +kernel
theorem pd16 : parseMethodDescriptor "(JJ)V" = some ⟨[.long, .long], none⟩ := by decide +kernel
theorem ef_0 (m : MethodId) (q0 : Int64) (q1 : Int64) (q2 : Int64) (q3 : Int64) (p4 : Int32) : entryFrame m #[(.long q0), (.long q1), (.long q2), (.long q3), (.int p4)] maxLocals = mkF m 0 #[.val (.long q0), .second, .val (.long q1), .second, .val (.long q2), .second, .val (.long q3), .second, .val (.int p4), .unset, .unset, .unset, .unset, .unset, .unset, .unset, .unset, .unset, .unset, .unset, .unset, .unset, .unset, .unset, .unset, .unset, .unset, .unset] [] := by (first | (simp [entryFrame, mkF, argsToLocals, Value.category, maxLocals]; done) | rfl)
def Q0 (Z : State) (q0 : Int64) (q1 : Int64) (q2 : Int64) (q3 : Int64) (p4 : Int32) (h0 : Heap) (n0 : Nat) (v : Option Value) (h : Heap) (L : List Loc) : Prop := v = some (.int 1) ∧ Fr n0 L
set_option maxRecDepth 65536 in
set_option maxHeartbeats 40000000 in
theorem rm0 (l : Launch) (Z : State) (a0 : Array Value) (hw : ∀ d ∈ tables_1, d.before a0 Z = true) (ws : List Jvm.Cond) (q0 : Int64) (q1 : Int64) (q2 : Int64) (q3 : Int64) (p4 : Int32) (h0 : Heap) (n0 : Nat) (Z0 : n0 ≤ h0.size) :
    MetFree l x (head1 (Jvm.Cond.code x code maxLocals ret :: ws) room_1) (fun a U => a = #[(.long q0), (.long q1), (.long q2), (.long q3), (.int p4)] ∧ Z.Warmed39 U.vm ∧ U.heap = h0) (fun _ _ _ _ _ => True) (fun _ U o U' => ∃ v L, o = .returned v ∧ Q0 Z q0 q1 q2 q3 p4 h0 n0 v U'.heap L ∧ FrameEnd U o U' L room_1.cells room_1.slots) := by
  refine MetFree.of_bodySF (plainFor_of_name pn0) hisR ?_
  intro p e s m args below meth c s₁ Bd hml0 hP hK
  obtain ⟨rfl, hZ, hh⟩ := hP
  have hx := Bd.exec
  have hby := Bd.bytes
  have hml : c.maxLocals = 28 := hml0
  have hown : s.vm.findClass "com/example/upper_falls/upperfalls/HeldKeysReleasePinLaw" = some m.cls := findClass_of_methodNamed Bd.named
  have hnm := (name_of_methodNamed Bd.named Bd.method).1
  have X0 : Stand p l e room_1 s m #[(.long q0), (.long q1), (.long q2), (.long q3), (.int p4)] below meth c s₁ [] 0 0 := Stand.of_body Bd
  have e0 : s₁.heap = h0 := by rw [← hh, Bd.state]; rfl
  have N0 := Fr.nil n0
  have K0 : Keep h0 h0 [] := Keep.refl h0 _
  show own_Go p e below s (Q0 Z q0 q1 q2 q3 p4 h0 n0) room_1.cells room_1.slots (s₁.setTop (entryFrame m #[(.long q0), (.long q1), (.long q2), (.long q3), (.int p4)] maxLocals))
  refine own_go (fun t k => castTop (ef_0 m q0 q1 q2 q3 p4) k) ?_
  obtain ⟨T101, h101, X101, e101, E101, A101, D101, -, st101⟩ := newO X0 hx hZ hown (own_wd hw 0 rfl) (own_wd hw 1 rfl) (own_wd hw 2 rfl) e0 (g := (mkF m 0 #[.val (.long q0), .second, .val (.long q1), .second, .val (.long q2), .second, .val (.long q3), .second, .val (.int p4), .unset, .unset, .unset, .unset, .unset, .unset, .unset, .unset, .unset, .unset, .unset, .unset, .unset, .unset, .unset, .unset, .unset, .unset, .unset] [])) rfl (hb hby at_0) (by decide) (by decide)
  obtain ⟨b101, g101⟩ : ∃ z, z = h0.size := ⟨_, rfl⟩
  rw [← g101] at A101 D101 st101
  have g_b101 : n0 ≤ b101 := Nat.le_trans Z0 (Nat.le_of_eq g101.symm)
  have sz_b101 : h0.size ≤ b101 := Nat.le_trans K0.1 (Nat.le_of_eq g101.symm)
  have Z102 : n0 ≤ h101.size := Nat.le_trans Z0 E101.1
  have K103 : Keep h0 h101 [] := K0.ext E101
  have F104 : Fld Z h101 b101 "com/example/upper_falls/upperfalls/KeyHash" "h1" "J" (.long (0 : Int64)) := D101 (Or.inr (own_wd hw 20 rfl)) (ty := .long) (by decide)
  have F105 : Fld Z h101 b101 "com/example/upper_falls/upperfalls/KeyHash" "h2" "J" (.long (0 : Int64)) := D101 (Or.inr (own_wd hw 22 rfl)) (ty := .long) (by decide)
  obtain ⟨_, _, ⟨T106, L106, k106, n106⟩, -, X106, ⟨Lc106, hQ106, l106, y106, z106⟩, st106⟩ := Jvm.LawKit.callS X101 hx (y := (⟨"com/example/upper_falls/upperfalls/HeldKeysReleasePinLaw", "home", "(II)J"⟩ : MethodName)) hown (mvT hZ (own_wd hw 4 rfl)) (mvT hZ (own_wd hw 5 rfl)) (mvT hZ (own_wd hw 6 rfl)) (mvT hZ (own_wd hw 7 rfl)) (by decide) (backOf (W := 4) (rmlh l Z a0 hw [] p4 (0 : Int32) h101 n0 Z102 ) hZ (own_wd hw 7 rfl) (own_wd hw 6 rfl) (by decide) (by decide)) (g := (mkF m 12 #[.val (.long q0), .second, .val (.long q1), .second, .val (.long q2), .second, .val (.long q3), .second, .val (.int p4), .unset, .unset, .unset, .unset, .unset, .unset, .unset, .unset, .unset, .unset, .unset, .unset, .unset, .unset, .unset, .unset, .unset, .unset, .unset] [(.int (0 : Int32)), (.int p4), (.long (q0 &&& (-32 : Int64))), (.ref b101), (.ref b101)])) rfl (by rw [hml]; rfl) (argsL := [(.int p4), (.int (0 : Int32))]) (rest := [(.long (q0 &&& (-32 : Int64))), (.ref b101), (.ref b101)]) (lenOf pd15 rfl) rfl (by show 2 * 0 + _ ≤ _; exact Nat.le_of_eq rfl) (hb hby at_12) (fun _ _ => ⟨rfl, e101, (by decide : 1 + 0 ≤ _), (by decide : 2 + 0 ≤ _)⟩)
  dsimp only [Pt.U, Pt.locs, Pt.cells, Pt.slots] at X106 l106 y106 z106 st106 hQ106
  subst l106 y106 z106
  obtain ⟨rfl, N106q, e106⟩ := hQ106
  have N106 := Fr.app N0 N106q
  obtain ⟨v1, hv1⟩ : ∃ z : Int64, z = ((q0 &&& (-32 : Int64)) ||| (own_rlh p4 (0 : Int32))) := ⟨_, rfl⟩
  obtain ⟨_, _, ⟨T107, L107, k107, n107⟩, -, X107, ⟨Lc107, hQ107, l107, y107, z107⟩, st107⟩ := X106.specialBack hx (y := (⟨"com/example/upper_falls/upperfalls/KeyHash", "<init>", "(JJ)V"⟩ : MethodName)) rfl hown (mvT hZ (own_wd hw 8 rfl)) (mvT hZ (own_wd hw 9 rfl)) (mvT hZ (own_wd hw 10 rfl)) (by decide) (backOf (W := 1) (rm2 l Z a0 hw [] b101 v1 (0 : Int64) (0 : Int64) (0 : Int64) h101 n0 Z102 A101 F104 F105 g_b101) hZ (own_wd hw 10 rfl) (own_wd hw 2 rfl) (by decide) (by decide)) (g := (mkF m 17 #[.val (.long q0), .second, .val (.long q1), .second, .val (.long q2), .second, .val (.long q3), .second, .val (.int p4), .unset, .unset, .unset, .unset, .unset, .unset, .unset, .unset, .unset, .unset, .unset, .unset, .unset, .unset, .unset, .unset, .unset, .unset, .unset] [(.long (0 : Int64)), (.long v1), (.ref b101), (.ref b101)])) rfl (by rw [hml]; rfl) (Steps.refl _) (a := b101) (argsL := [(.long v1), (.long (0 : Int64))]) (rest := [(.ref b101)]) (lenOf pd16 rfl) rfl (by show 2 * 0 + _ ≤ _; exact Nat.le_of_eq rfl) (hb hby at_17) (fun _ _ => ⟨rfl, e106, (by decide : 1 + 0 ≤ _), (by decide : 2 + 0 ≤ _)⟩)
  dsimp only [Pt.U, Pt.locs, Pt.cells, Pt.slots] at X107 l107 y107 z107 st107 hQ107
  subst l107 y107 z107
  obtain ⟨rfl, N107q, K107q, F107_0, F107_1, F107_2⟩ := hQ107
  have F108 := A101.keep K107q
  have Z109 : n0 ≤ T107.heap.size := Nat.le_trans Z102 K107q.1
  have K110 : Keep h0 T107.heap [] := K103.trans K107q (allS (Or.inr sz_b101) all0)
  have N107 := Fr.app N106 N107q
  obtain ⟨T111, h111, X111, e111, E111, A111, D111, -, st111⟩ := newO X107 hx hZ hown (own_wd hw 0 rfl) (own_wd hw 1 rfl) (own_wd hw 2 rfl) (rfl : T107.heap = T107.heap) (g := (mkF m 22 #[.val (.long q0), .second, .val (.long q1), .second, .val (.long q2), .second, .val (.long q3), .second, .val (.int p4), .val (.ref b101), .unset, .unset, .unset, .unset, .unset, .unset, .unset, .unset, .unset, .unset, .unset, .unset, .unset, .unset, .unset, .unset, .unset, .unset] [])) rfl (hb hby at_22) (by decide) (by decide)
  obtain ⟨b111, g111⟩ : ∃ z, z = T107.heap.size := ⟨_, rfl⟩
  rw [← g111] at A111 D111 st111
  have ne_b101_b111 : b101 ≠ b111 := Nat.ne_of_lt (Nat.lt_of_lt_of_le F107_0.lt (Nat.le_of_eq g111.symm))
  have g_b111 : n0 ≤ b111 := Nat.le_trans Z109 (Nat.le_of_eq g111.symm)
  have sz_b111 : h0.size ≤ b111 := Nat.le_trans K110.1 (Nat.le_of_eq g111.symm)
  have F112 := F107_0.ext E111
  have F113 := F107_1.ext E111
  have F114 := F107_2.ext E111
  have Z115 : n0 ≤ h111.size := Nat.le_trans Z109 E111.1
  have K116 : Keep h0 h111 [] := K110.ext E111
  have F117 : Fld Z h111 b111 "com/example/upper_falls/upperfalls/KeyHash" "h1" "J" (.long (0 : Int64)) := D111 (Or.inr (own_wd hw 20 rfl)) (ty := .long) (by decide)
  have F118 : Fld Z h111 b111 "com/example/upper_falls/upperfalls/KeyHash" "h2" "J" (.long (0 : Int64)) := D111 (Or.inr (own_wd hw 22 rfl)) (ty := .long) (by decide)
  obtain ⟨_, _, ⟨T119, L119, k119, n119⟩, -, X119, ⟨Lc119, hQ119, l119, y119, z119⟩, st119⟩ := Jvm.LawKit.callS X111 hx (y := (⟨"com/example/upper_falls/upperfalls/HeldKeysReleasePinLaw", "home", "(II)J"⟩ : MethodName)) hown (mvT hZ (own_wd hw 4 rfl)) (mvT hZ (own_wd hw 5 rfl)) (mvT hZ (own_wd hw 6 rfl)) (mvT hZ (own_wd hw 7 rfl)) (by decide) (backOf (W := 4) (rmlh l Z a0 hw [] p4 (2 : Int32) h111 n0 Z115 ) hZ (own_wd hw 7 rfl) (own_wd hw 6 rfl) (by decide) (by decide)) (g := (mkF m 34 #[.val (.long q0), .second, .val (.long q1), .second, .val (.long q2), .second, .val (.long q3), .second, .val (.int p4), .val (.ref b101), .unset, .unset, .unset, .unset, .unset, .unset, .unset, .unset, .unset, .unset, .unset, .unset, .unset, .unset, .unset, .unset, .unset, .unset] [(.int (2 : Int32)), (.int p4), (.long (q1 &&& (-32 : Int64))), (.ref b111), (.ref b111)])) rfl (by rw [hml]; rfl) (argsL := [(.int p4), (.int (2 : Int32))]) (rest := [(.long (q1 &&& (-32 : Int64))), (.ref b111), (.ref b111)]) (lenOf pd15 rfl) rfl (by show 2 * 0 + _ ≤ _; exact Nat.le_of_eq rfl) (hb hby at_34) (fun _ _ => ⟨rfl, e111, (by decide : 2 + 0 ≤ _), (by decide : 4 + 0 ≤ _)⟩)
  dsimp only [Pt.U, Pt.locs, Pt.cells, Pt.slots] at X119 l119 y119 z119 st119 hQ119
  subst l119 y119 z119
  obtain ⟨rfl, N119q, e119⟩ := hQ119
  have N119 := Fr.app N107 N119q
  obtain ⟨v2, hv2⟩ : ∃ z : Int64, z = ((q1 &&& (-32 : Int64)) ||| (own_rlh p4 (2 : Int32))) := ⟨_, rfl⟩
  obtain ⟨_, _, ⟨T120, L120, k120, n120⟩, -, X120, ⟨Lc120, hQ120, l120, y120, z120⟩, st120⟩ := X119.specialBack hx (y := (⟨"com/example/upper_falls/upperfalls/KeyHash", "<init>", "(JJ)V"⟩ : MethodName)) rfl hown (mvT hZ (own_wd hw 8 rfl)) (mvT hZ (own_wd hw 9 rfl)) (mvT hZ (own_wd hw 10 rfl)) (by decide) (backOf (W := 1) (rm2 l Z a0 hw [] b111 v2 (1 : Int64) (0 : Int64) (0 : Int64) h111 n0 Z115 A111 F117 F118 g_b111) hZ (own_wd hw 10 rfl) (own_wd hw 2 rfl) (by decide) (by decide)) (g := (mkF m 39 #[.val (.long q0), .second, .val (.long q1), .second, .val (.long q2), .second, .val (.long q3), .second, .val (.int p4), .val (.ref b101), .unset, .unset, .unset, .unset, .unset, .unset, .unset, .unset, .unset, .unset, .unset, .unset, .unset, .unset, .unset, .unset, .unset, .unset] [(.long (1 : Int64)), (.long v2), (.ref b111), (.ref b111)])) rfl (by rw [hml]; rfl) (Steps.refl _) (a := b111) (argsL := [(.long v2), (.long (1 : Int64))]) (rest := [(.ref b111)]) (lenOf pd16 rfl) rfl (by show 2 * 0 + _ ≤ _; exact Nat.le_of_eq rfl) (hb hby at_39) (fun _ _ => ⟨rfl, e119, (by decide : 2 + 0 ≤ _), (by decide : 4 + 0 ≤ _)⟩)
  dsimp only [Pt.U, Pt.locs, Pt.cells, Pt.slots] at X120 l120 y120 z120 st120 hQ120
  subst l120 y120 z120
  obtain ⟨rfl, N120q, K120q, F120_0, F120_1, F120_2⟩ := hQ120
  have F121 := F112.keep K120q
  have F122 := F113.keep K120q (ninS ne_b101_b111 nin0)
  have F123 := F114.keep K120q (ninS ne_b101_b111 nin0)
  have F124 := A111.keep K120q
  have Z125 : n0 ≤ T120.heap.size := Nat.le_trans Z115 K120q.1
  have K126 : Keep h0 T120.heap [] := K116.trans K120q (allS (Or.inr sz_b111) all0)
  have N120 := Fr.app N119 N120q
  obtain ⟨T127, h127, X127, e127, E127, A127, D127, -, st127⟩ := newO X120 hx hZ hown (own_wd hw 0 rfl) (own_wd hw 1 rfl) (own_wd hw 2 rfl) (rfl : T120.heap = T120.heap) (g := (mkF m 44 #[.val (.long q0), .second, .val (.long q1), .second, .val (.long q2), .second, .val (.long q3), .second, .val (.int p4), .val (.ref b101), .val (.ref b111), .unset, .unset, .unset, .unset, .unset, .unset, .unset, .unset, .unset, .unset, .unset, .unset, .unset, .unset, .unset, .unset, .unset] [])) rfl (hb hby at_44) (by decide) (by decide)
  obtain ⟨b127, g127⟩ : ∃ z, z = T120.heap.size := ⟨_, rfl⟩
  rw [← g127] at A127 D127 st127
  have ne_b101_b127 : b101 ≠ b127 := Nat.ne_of_lt (Nat.lt_of_lt_of_le F121.lt (Nat.le_of_eq g127.symm))
  have ne_b111_b127 : b111 ≠ b127 := Nat.ne_of_lt (Nat.lt_of_lt_of_le F120_0.lt (Nat.le_of_eq g127.symm))
  have g_b127 : n0 ≤ b127 := Nat.le_trans Z125 (Nat.le_of_eq g127.symm)
  have sz_b127 : h0.size ≤ b127 := Nat.le_trans K126.1 (Nat.le_of_eq g127.symm)
  have F128 := F121.ext E127
  have F129 := F122.ext E127
  have F130 := F123.ext E127
  have F131 := F120_0.ext E127
  have F132 := F120_1.ext E127
  have F133 := F120_2.ext E127
  have Z134 : n0 ≤ h127.size := Nat.le_trans Z125 E127.1
  have K135 : Keep h0 h127 [] := K126.ext E127
  have F136 : Fld Z h127 b127 "com/example/upper_falls/upperfalls/KeyHash" "h1" "J" (.long (0 : Int64)) := D127 (Or.inr (own_wd hw 20 rfl)) (ty := .long) (by decide)
  have F137 : Fld Z h127 b127 "com/example/upper_falls/upperfalls/KeyHash" "h2" "J" (.long (0 : Int64)) := D127 (Or.inr (own_wd hw 22 rfl)) (ty := .long) (by decide)
  obtain ⟨_, _, ⟨T138, L138, k138, n138⟩, -, X138, ⟨Lc138, hQ138, l138, y138, z138⟩, st138⟩ := Jvm.LawKit.callS X127 hx (y := (⟨"com/example/upper_falls/upperfalls/HeldKeysReleasePinLaw", "home", "(II)J"⟩ : MethodName)) hown (mvT hZ (own_wd hw 4 rfl)) (mvT hZ (own_wd hw 5 rfl)) (mvT hZ (own_wd hw 6 rfl)) (mvT hZ (own_wd hw 7 rfl)) (by decide) (backOf (W := 4) (rmlh l Z a0 hw [] p4 (4 : Int32) h127 n0 Z134 ) hZ (own_wd hw 7 rfl) (own_wd hw 6 rfl) (by decide) (by decide)) (g := (mkF m 57 #[.val (.long q0), .second, .val (.long q1), .second, .val (.long q2), .second, .val (.long q3), .second, .val (.int p4), .val (.ref b101), .val (.ref b111), .unset, .unset, .unset, .unset, .unset, .unset, .unset, .unset, .unset, .unset, .unset, .unset, .unset, .unset, .unset, .unset, .unset] [(.int (4 : Int32)), (.int p4), (.long (q2 &&& (-32 : Int64))), (.ref b127), (.ref b127)])) rfl (by rw [hml]; rfl) (argsL := [(.int p4), (.int (4 : Int32))]) (rest := [(.long (q2 &&& (-32 : Int64))), (.ref b127), (.ref b127)]) (lenOf pd15 rfl) rfl (by show 2 * 0 + _ ≤ _; exact Nat.le_of_eq rfl) (hb hby at_57) (fun _ _ => ⟨rfl, e127, (by decide : 3 + 0 ≤ _), (by decide : 6 + 0 ≤ _)⟩)
  dsimp only [Pt.U, Pt.locs, Pt.cells, Pt.slots] at X138 l138 y138 z138 st138 hQ138
  subst l138 y138 z138
  obtain ⟨rfl, N138q, e138⟩ := hQ138
  have N138 := Fr.app N120 N138q
  obtain ⟨v3, hv3⟩ : ∃ z : Int64, z = ((q2 &&& (-32 : Int64)) ||| (own_rlh p4 (4 : Int32))) := ⟨_, rfl⟩
  obtain ⟨_, _, ⟨T139, L139, k139, n139⟩, -, X139, ⟨Lc139, hQ139, l139, y139, z139⟩, st139⟩ := X138.specialBack hx (y := (⟨"com/example/upper_falls/upperfalls/KeyHash", "<init>", "(JJ)V"⟩ : MethodName)) rfl hown (mvT hZ (own_wd hw 8 rfl)) (mvT hZ (own_wd hw 9 rfl)) (mvT hZ (own_wd hw 10 rfl)) (by decide) (backOf (W := 1) (rm2 l Z a0 hw [] b127 v3 (2 : Int64) (0 : Int64) (0 : Int64) h127 n0 Z134 A127 F136 F137 g_b127) hZ (own_wd hw 10 rfl) (own_wd hw 2 rfl) (by decide) (by decide)) (g := (mkF m 64 #[.val (.long q0), .second, .val (.long q1), .second, .val (.long q2), .second, .val (.long q3), .second, .val (.int p4), .val (.ref b101), .val (.ref b111), .unset, .unset, .unset, .unset, .unset, .unset, .unset, .unset, .unset, .unset, .unset, .unset, .unset, .unset, .unset, .unset, .unset] [(.long (2 : Int64)), (.long v3), (.ref b127), (.ref b127)])) rfl (by rw [hml]; rfl) (Steps.refl _) (a := b127) (argsL := [(.long v3), (.long (2 : Int64))]) (rest := [(.ref b127)]) (lenOf pd16 rfl) rfl (by show 2 * 0 + _ ≤ _; exact Nat.le_of_eq rfl) (hb hby at_64) (fun _ _ => ⟨rfl, e138, (by decide : 3 + 0 ≤ _), (by decide : 6 + 0 ≤ _)⟩)
  dsimp only [Pt.U, Pt.locs, Pt.cells, Pt.slots] at X139 l139 y139 z139 st139 hQ139
  subst l139 y139 z139
  obtain ⟨rfl, N139q, K139q, F139_0, F139_1, F139_2⟩ := hQ139
  have F140 := F128.keep K139q
  have F141 := F129.keep K139q (ninS ne_b101_b127 nin0)
  have F142 := F130.keep K139q (ninS ne_b101_b127 nin0)
  have F143 := F131.keep K139q
  have F144 := F132.keep K139q (ninS ne_b111_b127 nin0)
  have F145 := F133.keep K139q (ninS ne_b111_b127 nin0)
  have F146 := A127.keep K139q
  have Z147 : n0 ≤ T139.heap.size := Nat.le_trans Z134 K139q.1
  have K148 : Keep h0 T139.heap [] := K135.trans K139q (allS (Or.inr sz_b127) all0)
  have N139 := Fr.app N138 N139q
  obtain ⟨T149, h149, X149, e149, E149, A149, D149, -, st149⟩ := newO X139 hx hZ hown (own_wd hw 0 rfl) (own_wd hw 1 rfl) (own_wd hw 2 rfl) (rfl : T139.heap = T139.heap) (g := (mkF m 69 #[.val (.long q0), .second, .val (.long q1), .second, .val (.long q2), .second, .val (.long q3), .second, .val (.int p4), .val (.ref b101), .val (.ref b111), .val (.ref b127), .unset, .unset, .unset, .unset, .unset, .unset, .unset, .unset, .unset, .unset, .unset, .unset, .unset, .unset, .unset, .unset] [])) rfl (hb hby at_69) (by decide) (by decide)
  obtain ⟨b149, g149⟩ : ∃ z, z = T139.heap.size := ⟨_, rfl⟩
  rw [← g149] at A149 D149 st149
  have ne_b101_b149 : b101 ≠ b149 := Nat.ne_of_lt (Nat.lt_of_lt_of_le F140.lt (Nat.le_of_eq g149.symm))
  have ne_b111_b149 : b111 ≠ b149 := Nat.ne_of_lt (Nat.lt_of_lt_of_le F143.lt (Nat.le_of_eq g149.symm))
  have ne_b127_b149 : b127 ≠ b149 := Nat.ne_of_lt (Nat.lt_of_lt_of_le F139_0.lt (Nat.le_of_eq g149.symm))
  have g_b149 : n0 ≤ b149 := Nat.le_trans Z147 (Nat.le_of_eq g149.symm)
  have sz_b149 : h0.size ≤ b149 := Nat.le_trans K148.1 (Nat.le_of_eq g149.symm)
  have F150 := F140.ext E149
  have F151 := F141.ext E149
  have F152 := F142.ext E149
  have F153 := F143.ext E149
  have F154 := F144.ext E149
  have F155 := F145.ext E149
  have F156 := F139_0.ext E149
  have F157 := F139_1.ext E149
  have F158 := F139_2.ext E149
  have Z159 : n0 ≤ h149.size := Nat.le_trans Z147 E149.1
  have K160 : Keep h0 h149 [] := K148.ext E149
  have F161 : Fld Z h149 b149 "com/example/upper_falls/upperfalls/KeyHash" "h1" "J" (.long (0 : Int64)) := D149 (Or.inr (own_wd hw 20 rfl)) (ty := .long) (by decide)
  have F162 : Fld Z h149 b149 "com/example/upper_falls/upperfalls/KeyHash" "h2" "J" (.long (0 : Int64)) := D149 (Or.inr (own_wd hw 22 rfl)) (ty := .long) (by decide)
  obtain ⟨_, _, ⟨T163, L163, k163, n163⟩, -, X163, ⟨Lc163, hQ163, l163, y163, z163⟩, st163⟩ := Jvm.LawKit.callS X149 hx (y := (⟨"com/example/upper_falls/upperfalls/HeldKeysReleasePinLaw", "home", "(II)J"⟩ : MethodName)) hown (mvT hZ (own_wd hw 4 rfl)) (mvT hZ (own_wd hw 5 rfl)) (mvT hZ (own_wd hw 6 rfl)) (mvT hZ (own_wd hw 7 rfl)) (by decide) (backOf (W := 4) (rmlh l Z a0 hw [] p4 (6 : Int32) h149 n0 Z159 ) hZ (own_wd hw 7 rfl) (own_wd hw 6 rfl) (by decide) (by decide)) (g := (mkF m 83 #[.val (.long q0), .second, .val (.long q1), .second, .val (.long q2), .second, .val (.long q3), .second, .val (.int p4), .val (.ref b101), .val (.ref b111), .val (.ref b127), .unset, .unset, .unset, .unset, .unset, .unset, .unset, .unset, .unset, .unset, .unset, .unset, .unset, .unset, .unset, .unset] [(.int (6 : Int32)), (.int p4), (.long (q3 &&& (-32 : Int64))), (.ref b149), (.ref b149)])) rfl (by rw [hml]; rfl) (argsL := [(.int p4), (.int (6 : Int32))]) (rest := [(.long (q3 &&& (-32 : Int64))), (.ref b149), (.ref b149)]) (lenOf pd15 rfl) rfl (by show 2 * 0 + _ ≤ _; exact Nat.le_of_eq rfl) (hb hby at_83) (fun _ _ => ⟨rfl, e149, (by decide : 4 + 0 ≤ _), (by decide : 8 + 0 ≤ _)⟩)
  dsimp only [Pt.U, Pt.locs, Pt.cells, Pt.slots] at X163 l163 y163 z163 st163 hQ163
  subst l163 y163 z163
  obtain ⟨rfl, N163q, e163⟩ := hQ163
  have N163 := Fr.app N139 N163q
  obtain ⟨v4, hv4⟩ : ∃ z : Int64, z = ((q3 &&& (-32 : Int64)) ||| (own_rlh p4 (6 : Int32))) := ⟨_, rfl⟩
  obtain ⟨_, _, ⟨T164, L164, k164, n164⟩, -, X164, ⟨Lc164, hQ164, l164, y164, z164⟩, st164⟩ := X163.specialBack hx (y := (⟨"com/example/upper_falls/upperfalls/KeyHash", "<init>", "(JJ)V"⟩ : MethodName)) rfl hown (mvT hZ (own_wd hw 8 rfl)) (mvT hZ (own_wd hw 9 rfl)) (mvT hZ (own_wd hw 10 rfl)) (by decide) (backOf (W := 1) (rm2 l Z a0 hw [] b149 v4 (3 : Int64) (0 : Int64) (0 : Int64) h149 n0 Z159 A149 F161 F162 g_b149) hZ (own_wd hw 10 rfl) (own_wd hw 2 rfl) (by decide) (by decide)) (g := (mkF m 90 #[.val (.long q0), .second, .val (.long q1), .second, .val (.long q2), .second, .val (.long q3), .second, .val (.int p4), .val (.ref b101), .val (.ref b111), .val (.ref b127), .unset, .unset, .unset, .unset, .unset, .unset, .unset, .unset, .unset, .unset, .unset, .unset, .unset, .unset, .unset, .unset] [(.long (3 : Int64)), (.long v4), (.ref b149), (.ref b149)])) rfl (by rw [hml]; rfl) (Steps.refl _) (a := b149) (argsL := [(.long v4), (.long (3 : Int64))]) (rest := [(.ref b149)]) (lenOf pd16 rfl) rfl (by show 2 * 0 + _ ≤ _; exact Nat.le_of_eq rfl) (hb hby at_90) (fun _ _ => ⟨rfl, e163, (by decide : 4 + 0 ≤ _), (by decide : 8 + 0 ≤ _)⟩)
  dsimp only [Pt.U, Pt.locs, Pt.cells, Pt.slots] at X164 l164 y164 z164 st164 hQ164
  subst l164 y164 z164
  obtain ⟨rfl, N164q, K164q, F164_0, F164_1, F164_2⟩ := hQ164
  have F165 := F150.keep K164q
  have F166 := F151.keep K164q (ninS ne_b101_b149 nin0)
  have F167 := F152.keep K164q (ninS ne_b101_b149 nin0)
  have F168 := F153.keep K164q
  have F169 := F154.keep K164q (ninS ne_b111_b149 nin0)
  have F170 := F155.keep K164q (ninS ne_b111_b149 nin0)
  have F171 := F156.keep K164q
  have F172 := F157.keep K164q (ninS ne_b127_b149 nin0)
  have F173 := F158.keep K164q (ninS ne_b127_b149 nin0)
  have F174 := A149.keep K164q
  have Z175 : n0 ≤ T164.heap.size := Nat.le_trans Z159 K164q.1
  have K176 : Keep h0 T164.heap [] := K160.trans K164q (allS (Or.inr sz_b149) all0)
  have N164 := Fr.app N163 N164q
  have hnz103_177 : ¬ ((3 : Int32) = (0 : Int32)) := by decide
  obtain ⟨v5, hv5⟩ : ∃ z : Int32, z = ((((p4.toUInt32 >>> ((8 : Int32) &&& 31).toUInt32).toInt32) &&& (3 : Int32)) % (3 : Int32)) := ⟨_, rfl⟩
  obtain ⟨v6, hv6⟩ : ∃ z : Int32, z = (((p4.toUInt32 >>> ((10 : Int32) &&& 31).toUInt32).toInt32) &&& (3 : Int32)) := ⟨_, rfl⟩
  obtain ⟨T178, h178, X178, e178, E178, A178, D178, -, st178⟩ := newO X164 hx hZ hown (own_wd hw 25 rfl) (own_wd hw 26 rfl) (own_wd hw 27 rfl) (rfl : T164.heap = T164.heap) (g := (mkF m 115 #[.val (.long q0), .second, .val (.long q1), .second, .val (.long q2), .second, .val (.long q3), .second, .val (.int p4), .val (.ref b101), .val (.ref b111), .val (.ref b127), .val (.ref b149), .val (.int v5), .val (.int v6), .unset, .unset, .unset, .unset, .unset, .unset, .unset, .unset, .unset, .unset, .unset, .unset, .unset] [])) rfl (hb hby at_115) (by decide) (by decide)
  obtain ⟨b178, g178⟩ : ∃ z, z = T164.heap.size := ⟨_, rfl⟩
  rw [← g178] at A178 D178 st178
  have ne_b101_b178 : b101 ≠ b178 := Nat.ne_of_lt (Nat.lt_of_lt_of_le F165.lt (Nat.le_of_eq g178.symm))
  have ne_b111_b178 : b111 ≠ b178 := Nat.ne_of_lt (Nat.lt_of_lt_of_le F168.lt (Nat.le_of_eq g178.symm))
  have ne_b127_b178 : b127 ≠ b178 := Nat.ne_of_lt (Nat.lt_of_lt_of_le F171.lt (Nat.le_of_eq g178.symm))
  have ne_b149_b178 : b149 ≠ b178 := Nat.ne_of_lt (Nat.lt_of_lt_of_le F164_0.lt (Nat.le_of_eq g178.symm))
  have g_b178 : n0 ≤ b178 := Nat.le_trans Z175 (Nat.le_of_eq g178.symm)
  have sz_b178 : h0.size ≤ b178 := Nat.le_trans K176.1 (Nat.le_of_eq g178.symm)
  have F179 := F165.ext E178
  have F180 := F166.ext E178
  have F181 := F167.ext E178
  have F182 := F168.ext E178
  have F183 := F169.ext E178
  have F184 := F170.ext E178
  have F185 := F171.ext E178
  have F186 := F172.ext E178
  have F187 := F173.ext E178
  have F188 := F164_0.ext E178
  have F189 := F164_1.ext E178
  have F190 := F164_2.ext E178
  have Z191 : n0 ≤ h178.size := Nat.le_trans Z175 E178.1
  have K192 : Keep h0 h178 [] := K176.ext E178
  have F193 : Fld Z h178 b178 "com/example/upper_falls/upperfalls/HeldKeys" "limit" "I" (.int (0 : Int32)) := D178 (Or.inr (own_wd hw 33 rfl)) (ty := .int) (by decide)
  have F194 : Fld Z h178 b178 "com/example/upper_falls/upperfalls/HeldKeys" "hash1" "[J" .null := D178 (Or.inl (own_wd hw 40 rfl)) (ty := (.array .long)) (by decide)
  have F195 : Fld Z h178 b178 "com/example/upper_falls/upperfalls/HeldKeys" "hash2" "[J" .null := D178 (Or.inl (own_wd hw 42 rfl)) (ty := (.array .long)) (by decide)
  have F196 : Fld Z h178 b178 "com/example/upper_falls/upperfalls/HeldKeys" "occurrences" "[J" .null := D178 (Or.inl (own_wd hw 44 rfl)) (ty := (.array .long)) (by decide)
  have F197 : Fld Z h178 b178 "com/example/upper_falls/upperfalls/HeldKeys" "holders" "[I" .null := D178 (Or.inl (own_wd hw 47 rfl)) (ty := (.array .int)) (by decide)
  have F198 : Fld Z h178 b178 "com/example/upper_falls/upperfalls/HeldKeys" "free" "[I" .null := D178 (Or.inl (own_wd hw 49 rfl)) (ty := (.array .int)) (by decide)
  have F199 : Fld Z h178 b178 "com/example/upper_falls/upperfalls/HeldKeys" "slots" "[I" .null := D178 (Or.inl (own_wd hw 70 rfl)) (ty := (.array .int)) (by decide)
  have F200 : Fld Z h178 b178 "com/example/upper_falls/upperfalls/HeldKeys" "freeCount" "I" (.int (0 : Int32)) := D178 (Or.inl (own_wd hw 91 rfl)) (ty := .int) (by decide)
  have F201 : Fld Z h178 b178 "com/example/upper_falls/upperfalls/HeldKeys" "used" "I" (.int (0 : Int32)) := D178 (Or.inl (own_wd hw 93 rfl)) (ty := .int) (by decide)
  obtain ⟨_, _, ⟨T202, L202, k202, n202⟩, -, X202, ⟨Lc202, hQ202, l202, y202, z202⟩, st202⟩ := X178.specialBack hx (y := (⟨"com/example/upper_falls/upperfalls/HeldKeys", "<init>", "(I)V"⟩ : MethodName)) rfl hown (mvT hZ (own_wd hw 28 rfl)) (mvT hZ (own_wd hw 29 rfl)) (mvT hZ (own_wd hw 30 rfl)) (by decide) (backOf (W := 1) (rmik l Z a0 hw [] b178 (16 : Int32) h178 n0 Z191 A178 F194 F195 F196 F197 F198 F199 F193 F201 F200 (by first | assumption | decide : (16 : Int32) = (16 : Int32)) g_b178) hZ (own_wd hw 30 rfl) (own_wd hw 27 rfl) (by decide) (by decide)) (g := (mkF m 121 #[.val (.long q0), .second, .val (.long q1), .second, .val (.long q2), .second, .val (.long q3), .second, .val (.int p4), .val (.ref b101), .val (.ref b111), .val (.ref b127), .val (.ref b149), .val (.int v5), .val (.int v6), .unset, .unset, .unset, .unset, .unset, .unset, .unset, .unset, .unset, .unset, .unset, .unset, .unset] [(.int (16 : Int32)), (.ref b178), (.ref b178)])) rfl (by rw [hml]; rfl) (Steps.refl _) (a := b178) (argsL := [(.int (16 : Int32))]) (rest := [(.ref b178)]) (lenOf pd14 rfl) rfl (by show 2 * 0 + _ ≤ _; exact Nat.le_of_eq rfl) (hb hby at_121) (fun _ _ => ⟨rfl, e178, (by decide : 5 + 6 ≤ _), (by decide : 17 + 112 ≤ _)⟩)
  dsimp only [Pt.U, Pt.locs, Pt.cells, Pt.slots] at X202 l202 y202 z202 st202 hQ202
  subst l202 y202 z202
  obtain ⟨b202_0, b202_1, b202_2, b202_3, b202_4, b202_5, rfl, N202q, K202q, F202_0, F202_1, F202_2, F202_3, F202_4, F202_5, F202_6, F202_7, F202_8, F202_9, F202_10, F202_11, F202_12, F202_13, F202_14, F202_15, F202_16, F202_17, F202_18, F202_19, F202_20, F202_21, F202_22, F202_23, F202_24, F202_25, F202_26, F202_27, F202_28, F202_29, F202_30, F202_31, F202_32, F202_33, F202_34, F202_35, F202_36⟩ := hQ202
  have F203 := F179.keep K202q
  have F204 := F180.keep K202q (ninS ne_b101_b178 nin0)
  have F205 := F181.keep K202q (ninS ne_b101_b178 nin0)
  have F206 := F182.keep K202q
  have F207 := F183.keep K202q (ninS ne_b111_b178 nin0)
  have F208 := F184.keep K202q (ninS ne_b111_b178 nin0)
  have F209 := F185.keep K202q
  have F210 := F186.keep K202q (ninS ne_b127_b178 nin0)
  have F211 := F187.keep K202q (ninS ne_b127_b178 nin0)
  have F212 := F188.keep K202q
  have F213 := F189.keep K202q (ninS ne_b149_b178 nin0)
  have F214 := F190.keep K202q (ninS ne_b149_b178 nin0)
  have F215 := A178.keep K202q
  have Z216 : n0 ≤ T202.heap.size := Nat.le_trans Z191 K202q.1
  have K217 : Keep h0 T202.heap [] := K192.trans K202q (allS (Or.inr sz_b178) all0)
  have g_b202_0 : n0 ≤ b202_0 := Nat.le_trans Z191 F202_0
  have sz_b202_0 : h0.size ≤ b202_0 := Nat.le_trans K192.1 F202_0
  have ne_b101_b202_0 : b101 ≠ b202_0 := Nat.ne_of_lt (Nat.lt_of_lt_of_le F179.lt F202_0)
  have ne_b111_b202_0 : b111 ≠ b202_0 := Nat.ne_of_lt (Nat.lt_of_lt_of_le F182.lt F202_0)
  have ne_b127_b202_0 : b127 ≠ b202_0 := Nat.ne_of_lt (Nat.lt_of_lt_of_le F185.lt F202_0)
  have ne_b149_b202_0 : b149 ≠ b202_0 := Nat.ne_of_lt (Nat.lt_of_lt_of_le F188.lt F202_0)
  have ne_b178_b202_0 : b178 ≠ b202_0 := Nat.ne_of_lt (Nat.lt_of_lt_of_le A178.lt F202_0)
  have g_b202_1 : n0 ≤ b202_1 := Nat.le_trans Z191 F202_1
  have sz_b202_1 : h0.size ≤ b202_1 := Nat.le_trans K192.1 F202_1
  have ne_b101_b202_1 : b101 ≠ b202_1 := Nat.ne_of_lt (Nat.lt_of_lt_of_le F179.lt F202_1)
  have ne_b111_b202_1 : b111 ≠ b202_1 := Nat.ne_of_lt (Nat.lt_of_lt_of_le F182.lt F202_1)
  have ne_b127_b202_1 : b127 ≠ b202_1 := Nat.ne_of_lt (Nat.lt_of_lt_of_le F185.lt F202_1)
  have ne_b149_b202_1 : b149 ≠ b202_1 := Nat.ne_of_lt (Nat.lt_of_lt_of_le F188.lt F202_1)
  have ne_b178_b202_1 : b178 ≠ b202_1 := Nat.ne_of_lt (Nat.lt_of_lt_of_le A178.lt F202_1)
  have g_b202_2 : n0 ≤ b202_2 := Nat.le_trans Z191 F202_2
  have sz_b202_2 : h0.size ≤ b202_2 := Nat.le_trans K192.1 F202_2
  have ne_b101_b202_2 : b101 ≠ b202_2 := Nat.ne_of_lt (Nat.lt_of_lt_of_le F179.lt F202_2)
  have ne_b111_b202_2 : b111 ≠ b202_2 := Nat.ne_of_lt (Nat.lt_of_lt_of_le F182.lt F202_2)
  have ne_b127_b202_2 : b127 ≠ b202_2 := Nat.ne_of_lt (Nat.lt_of_lt_of_le F185.lt F202_2)
  have ne_b149_b202_2 : b149 ≠ b202_2 := Nat.ne_of_lt (Nat.lt_of_lt_of_le F188.lt F202_2)
  have ne_b178_b202_2 : b178 ≠ b202_2 := Nat.ne_of_lt (Nat.lt_of_lt_of_le A178.lt F202_2)
  have g_b202_3 : n0 ≤ b202_3 := Nat.le_trans Z191 F202_3
  have sz_b202_3 : h0.size ≤ b202_3 := Nat.le_trans K192.1 F202_3
  have ne_b101_b202_3 : b101 ≠ b202_3 := Nat.ne_of_lt (Nat.lt_of_lt_of_le F179.lt F202_3)
  have ne_b111_b202_3 : b111 ≠ b202_3 := Nat.ne_of_lt (Nat.lt_of_lt_of_le F182.lt F202_3)
  have ne_b127_b202_3 : b127 ≠ b202_3 := Nat.ne_of_lt (Nat.lt_of_lt_of_le F185.lt F202_3)
  have ne_b149_b202_3 : b149 ≠ b202_3 := Nat.ne_of_lt (Nat.lt_of_lt_of_le F188.lt F202_3)
  have ne_b178_b202_3 : b178 ≠ b202_3 := Nat.ne_of_lt (Nat.lt_of_lt_of_le A178.lt F202_3)
  have g_b202_4 : n0 ≤ b202_4 := Nat.le_trans Z191 F202_4
  have sz_b202_4 : h0.size ≤ b202_4 := Nat.le_trans K192.1 F202_4
  have ne_b101_b202_4 : b101 ≠ b202_4 := Nat.ne_of_lt (Nat.lt_of_lt_of_le F179.lt F202_4)
  have ne_b111_b202_4 : b111 ≠ b202_4 := Nat.ne_of_lt (Nat.lt_of_lt_of_le F182.lt F202_4)
  have ne_b127_b202_4 : b127 ≠ b202_4 := Nat.ne_of_lt (Nat.lt_of_lt_of_le F185.lt F202_4)
  have ne_b149_b202_4 : b149 ≠ b202_4 := Nat.ne_of_lt (Nat.lt_of_lt_of_le F188.lt F202_4)
  have ne_b178_b202_4 : b178 ≠ b202_4 := Nat.ne_of_lt (Nat.lt_of_lt_of_le A178.lt F202_4)
  have g_b202_5 : n0 ≤ b202_5 := Nat.le_trans Z191 F202_5
  have sz_b202_5 : h0.size ≤ b202_5 := Nat.le_trans K192.1 F202_5
  have ne_b101_b202_5 : b101 ≠ b202_5 := Nat.ne_of_lt (Nat.lt_of_lt_of_le F179.lt F202_5)
  have ne_b111_b202_5 : b111 ≠ b202_5 := Nat.ne_of_lt (Nat.lt_of_lt_of_le F182.lt F202_5)
  have ne_b127_b202_5 : b127 ≠ b202_5 := Nat.ne_of_lt (Nat.lt_of_lt_of_le F185.lt F202_5)
  have ne_b149_b202_5 : b149 ≠ b202_5 := Nat.ne_of_lt (Nat.lt_of_lt_of_le F188.lt F202_5)
  have ne_b178_b202_5 : b178 ≠ b202_5 := Nat.ne_of_lt (Nat.lt_of_lt_of_le A178.lt F202_5)
  obtain ⟨v7, hv7⟩ : ∃ z : Nat → Int64, z = (fun _ => (0 : Int64)) := ⟨_, rfl⟩
  have F202_31n : own_AJ Z T202.heap b202_0 .long 16 v7 := by rw [hv7]; exact F202_31
  obtain ⟨v8, hv8⟩ : ∃ z : Nat → Int64, z = (fun _ => (0 : Int64)) := ⟨_, rfl⟩
  have F202_32n : own_AJ Z T202.heap b202_1 .long 16 v8 := by rw [hv8]; exact F202_32
  obtain ⟨v9, hv9⟩ : ∃ z : Nat → Int64, z = (fun _ => (0 : Int64)) := ⟨_, rfl⟩
  have F202_33n : own_AJ Z T202.heap b202_2 .long 16 v9 := by rw [hv9]; exact F202_33
  obtain ⟨v10, hv10⟩ : ∃ z : Nat → Int32, z = (fun _ => (0 : Int32)) := ⟨_, rfl⟩
  have F202_34n : own_AI Z T202.heap b202_3 .int 16 v10 := by rw [hv10]; exact F202_34
  obtain ⟨v11, hv11⟩ : ∃ z : Nat → Int32, z = (fun _ => (0 : Int32)) := ⟨_, rfl⟩
  have F202_35n : own_AI Z T202.heap b202_4 .int 16 v11 := by rw [hv11]; exact F202_35
  obtain ⟨v12, hv12⟩ : ∃ z : Nat → Int32, z = (fun _ => (-1 : Int32)) := ⟨_, rfl⟩
  have F202_36n : own_AI Z T202.heap b202_5 .int 32 v12 := by rw [hv12]; exact F202_36
  have N202 := Fr.app N164 N202q
  obtain ⟨t0, ht0⟩ := own_hm (x := q0) (e := p4) (s := (0 : Int32)) hv1
  obtain ⟨t1, ht1⟩ := own_hm (x := q1) (e := p4) (s := (2 : Int32)) hv2
  obtain ⟨t2, ht2⟩ := own_hm (x := q2) (e := p4) (s := (4 : Int32)) hv3
  obtain ⟨t3, ht3⟩ := own_hm (x := q3) (e := p4) (s := (6 : Int32)) hv4
  obtain ⟨⟨cf0, cf1, cf2⟩, ⟨ce0, ce1, ce2⟩, ⟨cg0, cg1, cg2⟩, cf3, ce3⟩ := own_c0 (own_fin0 t0 t1 t2 t3)
  rw [← ht0] at cf0 cf1 cf2 ce0 ce1 ce2 cg0 cg1 cg2 cf3 ce3
  rw [← ht1] at cf1 cf2 ce1 ce2 cg0 cg1 cg2 cf3 ce3
  rw [← ht2] at cf2 ce2 cg0 cg1 cg2 cf3 ce3
  rw [← ht3] at cf3 ce3
  have hr3 := own_r3 hv5
  have hF0 : v12 = own_F0 := hv12
  have G0 : ∀ a, a < 0 → v8 a = Int64.ofNat a := fun a ha => absurd ha (Nat.not_lt_zero _)
  obtain ⟨cq218, kq218, q218a, q218b, q218c⟩ := isOf hZ (rfl : T202.heap = T202.heap) F202_21
  obtain ⟨_, _, ⟨T218, L218, k218, n218⟩, -, X218, ⟨Lc218, hQ218, l218, y218, z218⟩, st218⟩ := X202.virtualBack hx (y := (⟨"com/example/upper_falls/upperfalls/HeldKeys", "hold", "(Lcom/example/upper_falls/upperfalls/KeyHash;)I"⟩ : MethodName)) (z := (⟨"com/example/upper_falls/upperfalls/HeldKeys", "hold", "(Lcom/example/upper_falls/upperfalls/KeyHash;)I"⟩ : MethodName)) hown (mvT hZ (own_wd hw 71 rfl)) (mvT hZ (own_wd hw 72 rfl)) (notFace_of_selects (args := #[]) (mvT hZ (own_wd hw 74 rfl))) (mvT hZ (own_wd hw 74 rfl)) (mvT hZ (own_wd hw 73 rfl)) (by decide) (backOf (W := 0) (rmhn l Z a0 hw [] b178 b101 b202_0 b202_1 b202_2 b202_3 b202_4 b202_5 v7 v8 v9 v10 v11 v12 v1 (0 : Int64) (0 : Int32) (0 : Int32) 0 (own_E own_F0 ((v1.toInt32) &&& (31 : Int32))) (T202.heap) n0 Z216 F202_21 F202_22 F202_23 F202_24 F202_25 F202_26 F202_27 F202_28 F202_29 F202_30 F202_31n F202_32n F202_33n F202_34n F202_35n F202_36n F203 F204 F205 ((by rw [hF0]; exact own_V0) : own_V 0 v12) ((own_Mk (t := 0) (by decide) (by decide) rfl rfl G0 (fun q => absurd q (by decide))) : own_M 0 v7 v8 (0 : Int32) v1 (0 : Int64)) (by decide : 0 ≤ 3) ((by rw [hF0]; exact cf0) : own_fnd v12 (0 : Int32) 8 ((v1.toInt32) &&& (31 : Int32)) = some (-1 : Int32)) (by decide : (¬ (0 : Int32) < 0 ∧ (0 : Int32).toNatClampNeg < 16)) ((by rw [hF0]; exact ce0) : own_emp v12 8 ((v1.toInt32) &&& (31 : Int32)) = some (own_E own_F0 ((v1.toInt32) &&& (31 : Int32)))) (Ne.symm ne_b178_b202_0) (Ne.symm ne_b178_b202_1) (Ne.symm ne_b178_b202_2) (Ne.symm ne_b178_b202_3) (Ne.symm ne_b178_b202_4) (Ne.symm ne_b178_b202_5) ne_b101_b178 g_b178 ne_b178_b202_0 (Ne.symm F202_6) (Ne.symm F202_7) (Ne.symm F202_8) (Ne.symm F202_9) (Ne.symm F202_10) ne_b101_b202_0 g_b202_0 ne_b178_b202_1 (Ne.symm F202_11) (Ne.symm F202_12) (Ne.symm F202_13) (Ne.symm F202_14) ne_b101_b202_1 F202_6 g_b202_1 ne_b178_b202_2 (Ne.symm F202_15) (Ne.symm F202_16) (Ne.symm F202_17) ne_b101_b202_2 F202_7 F202_11 g_b202_2 ne_b178_b202_5 F202_19 F202_20 ne_b101_b202_5 F202_10 F202_14 F202_17 g_b202_5 ne_b178_b202_3 (Ne.symm F202_18) ne_b101_b202_3 F202_8 F202_12 F202_15 (Ne.symm F202_19) g_b202_3) hZ (own_wd hw 75 rfl) (own_wd hw 27 rfl) (by decide) (by decide)) q218a q218c (g := (mkF m 130 #[.val (.long q0), .second, .val (.long q1), .second, .val (.long q2), .second, .val (.long q3), .second, .val (.int p4), .val (.ref b101), .val (.ref b111), .val (.ref b127), .val (.ref b149), .val (.int v5), .val (.int v6), .val (.ref b178), .unset, .unset, .unset, .unset, .unset, .unset, .unset, .unset, .unset, .unset, .unset, .unset] [(.ref b101), (.ref b178)])) rfl (by rw [hml]; rfl) (Steps.refl _) (argsL := [(.ref b101)]) (rest := []) (lenOf pd13 rfl) rfl (by show 2 * 0 + _ ≤ _; exact Nat.le_of_eq rfl) (hb hby at_130) (fun _ _ => ⟨rfl, (rfl : T202.heap = T202.heap), (by decide : 11 + 0 ≤ _), (by decide : 129 + 0 ≤ _)⟩)
  dsimp only [Pt.U, Pt.locs, Pt.cells, Pt.slots] at X218 l218 y218 z218 st218 hQ218
  subst l218 y218 z218
  obtain ⟨rfl, N218q, K218q, F218_0, F218_1, F218_2, F218_3, F218_4, F218_5, F218_6, F218_7, F218_8, F218_9, F218_10, F218_11, F218_12, F218_13, F218_14⟩ := hQ218
  have F219 := F203.keep K218q
  have F220 := F204.keep K218q (ninS ne_b101_b178 (ninS ne_b101_b202_0 (ninS ne_b101_b202_1 (ninS ne_b101_b202_2 (ninS ne_b101_b202_5 (ninS ne_b101_b202_3 nin0))))))
  have F221 := F205.keep K218q (ninS ne_b101_b178 (ninS ne_b101_b202_0 (ninS ne_b101_b202_1 (ninS ne_b101_b202_2 (ninS ne_b101_b202_5 (ninS ne_b101_b202_3 nin0))))))
  have F222 := F206.keep K218q
  have F223 := F207.keep K218q (ninS ne_b111_b178 (ninS ne_b111_b202_0 (ninS ne_b111_b202_1 (ninS ne_b111_b202_2 (ninS ne_b111_b202_5 (ninS ne_b111_b202_3 nin0))))))
  have F224 := F208.keep K218q (ninS ne_b111_b178 (ninS ne_b111_b202_0 (ninS ne_b111_b202_1 (ninS ne_b111_b202_2 (ninS ne_b111_b202_5 (ninS ne_b111_b202_3 nin0))))))
  have F225 := F209.keep K218q
  have F226 := F210.keep K218q (ninS ne_b127_b178 (ninS ne_b127_b202_0 (ninS ne_b127_b202_1 (ninS ne_b127_b202_2 (ninS ne_b127_b202_5 (ninS ne_b127_b202_3 nin0))))))
  have F227 := F211.keep K218q (ninS ne_b127_b178 (ninS ne_b127_b202_0 (ninS ne_b127_b202_1 (ninS ne_b127_b202_2 (ninS ne_b127_b202_5 (ninS ne_b127_b202_3 nin0))))))
  have F228 := F212.keep K218q
  have F229 := F213.keep K218q (ninS ne_b149_b178 (ninS ne_b149_b202_0 (ninS ne_b149_b202_1 (ninS ne_b149_b202_2 (ninS ne_b149_b202_5 (ninS ne_b149_b202_3 nin0))))))
  have F230 := F214.keep K218q (ninS ne_b149_b178 (ninS ne_b149_b202_0 (ninS ne_b149_b202_1 (ninS ne_b149_b202_2 (ninS ne_b149_b202_5 (ninS ne_b149_b202_3 nin0))))))
  have F231 := F202_21.keep K218q
  have F232 := F202_35n.keep K218q (ninS (Ne.symm ne_b178_b202_4) (ninS (Ne.symm F202_9) (ninS (Ne.symm F202_13) (ninS (Ne.symm F202_16) (ninS F202_20 (ninS (Ne.symm F202_18) nin0))))))
  have Z233 : n0 ≤ T218.heap.size := Nat.le_trans Z216 K218q.1
  have K234 : Keep h0 T218.heap [] := K217.trans K218q (allS (Or.inr sz_b178) (allS (Or.inr sz_b202_0) (allS (Or.inr sz_b202_1) (allS (Or.inr sz_b202_2) (allS (Or.inr sz_b202_5) (allS (Or.inr sz_b202_3) all0))))))
  have F218_8f : Fld Z T218.heap b178 "com/example/upper_falls/upperfalls/HeldKeys" "used" "I" (.int (1 : Int32)) := F218_8
  obtain ⟨v13, hv13⟩ : ∃ z : Nat → Int64, z = (own_up v7 ((0 : Int32).toNatClampNeg) v1) := ⟨_, rfl⟩
  have F218_10n : own_AJ Z T218.heap b202_0 .long 16 v13 := by rw [hv13]; exact F218_10
  obtain ⟨v14, hv14⟩ : ∃ z : Nat → Int64, z = (own_up v8 ((0 : Int32).toNatClampNeg) (0 : Int64)) := ⟨_, rfl⟩
  have F218_11n : own_AJ Z T218.heap b202_1 .long 16 v14 := by rw [hv14]; exact F218_11
  obtain ⟨v15, hv15⟩ : ∃ z : Nat → Int64, z = (own_up v9 ((0 : Int32).toNatClampNeg) (0 : Int64)) := ⟨_, rfl⟩
  have F218_12n : own_AJ Z T218.heap b202_2 .long 16 v15 := by rw [hv15]; exact F218_12
  obtain ⟨v16, hv16⟩ : ∃ z : Nat → Int32, z = (own_up v12 ((own_E own_F0 ((v1.toInt32) &&& (31 : Int32))).toNatClampNeg) (0 : Int32)) := ⟨_, rfl⟩
  have F218_13n : own_AI Z T218.heap b202_5 .int 32 v16 := by rw [hv16]; exact F218_13
  obtain ⟨v17, hv17⟩ : ∃ z : Nat → Int32, z = (own_up v10 ((0 : Int32).toNatClampNeg) ((v10 (0 : Int32).toNatClampNeg) + (1 : Int32))) := ⟨_, rfl⟩
  have F218_14n : own_AI Z T218.heap b202_3 .int 16 v17 := by rw [hv17]; exact F218_14
  have N218 := Fr.app N202 N218q
  have hF1 : v16 = (own_F1 ((v1.toInt32) &&& (31 : Int32))) := by rw [hv16, hF0]; rfl
  have G1 := own_Gs G0 hv14 (by decide) rfl
  obtain ⟨cq235, kq235, q235a, q235b, q235c⟩ := isOf hZ (rfl : T218.heap = T218.heap) F218_0
  obtain ⟨_, _, ⟨T235, L235, k235, n235⟩, -, X235, ⟨Lc235, hQ235, l235, y235, z235⟩, st235⟩ := X218.virtualBack hx (y := (⟨"com/example/upper_falls/upperfalls/HeldKeys", "hold", "(Lcom/example/upper_falls/upperfalls/KeyHash;)I"⟩ : MethodName)) (z := (⟨"com/example/upper_falls/upperfalls/HeldKeys", "hold", "(Lcom/example/upper_falls/upperfalls/KeyHash;)I"⟩ : MethodName)) hown (mvT hZ (own_wd hw 71 rfl)) (mvT hZ (own_wd hw 72 rfl)) (notFace_of_selects (args := #[]) (mvT hZ (own_wd hw 74 rfl))) (mvT hZ (own_wd hw 74 rfl)) (mvT hZ (own_wd hw 73 rfl)) (by decide) (backOf (W := 0) (rmhn l Z a0 hw [] b178 b111 b202_0 b202_1 b202_2 b202_3 b202_4 b202_5 v13 v14 v15 v17 v11 v16 v2 (1 : Int64) (1 : Int32) (1 : Int32) 1 (own_E (own_F1 ((v1.toInt32) &&& (31 : Int32))) ((v2.toInt32) &&& (31 : Int32))) (T218.heap) n0 Z233 F218_0 F218_1 F218_2 F218_3 F218_4 F218_5 F218_6 F218_7 F218_8f F218_9 F218_10n F218_11n F218_12n F218_14n F232 F218_13n F222 F223 F224 ((by rw [hF1]; exact own_V1) : own_V 1 v16) ((own_Mk (t := 1) (by decide) (by decide) rfl rfl G1 (fun q => absurd q (by decide))) : own_M 1 v13 v14 (1 : Int32) v2 (1 : Int64)) (by decide : 1 ≤ 3) ((by rw [hF1]; exact cf1) : own_fnd v16 (1 : Int32) 8 ((v2.toInt32) &&& (31 : Int32)) = some (-1 : Int32)) (by decide : (¬ (1 : Int32) < 0 ∧ (1 : Int32).toNatClampNeg < 16)) ((by rw [hF1]; exact ce1) : own_emp v16 8 ((v2.toInt32) &&& (31 : Int32)) = some (own_E (own_F1 ((v1.toInt32) &&& (31 : Int32))) ((v2.toInt32) &&& (31 : Int32)))) (Ne.symm ne_b178_b202_0) (Ne.symm ne_b178_b202_1) (Ne.symm ne_b178_b202_2) (Ne.symm ne_b178_b202_3) (Ne.symm ne_b178_b202_4) (Ne.symm ne_b178_b202_5) ne_b111_b178 g_b178 ne_b178_b202_0 (Ne.symm F202_6) (Ne.symm F202_7) (Ne.symm F202_8) (Ne.symm F202_9) (Ne.symm F202_10) ne_b111_b202_0 g_b202_0 ne_b178_b202_1 (Ne.symm F202_11) (Ne.symm F202_12) (Ne.symm F202_13) (Ne.symm F202_14) ne_b111_b202_1 F202_6 g_b202_1 ne_b178_b202_2 (Ne.symm F202_15) (Ne.symm F202_16) (Ne.symm F202_17) ne_b111_b202_2 F202_7 F202_11 g_b202_2 ne_b178_b202_5 F202_19 F202_20 ne_b111_b202_5 F202_10 F202_14 F202_17 g_b202_5 ne_b178_b202_3 (Ne.symm F202_18) ne_b111_b202_3 F202_8 F202_12 F202_15 (Ne.symm F202_19) g_b202_3) hZ (own_wd hw 75 rfl) (own_wd hw 27 rfl) (by decide) (by decide)) q235a q235c (g := (mkF m 139 #[.val (.long q0), .second, .val (.long q1), .second, .val (.long q2), .second, .val (.long q3), .second, .val (.int p4), .val (.ref b101), .val (.ref b111), .val (.ref b127), .val (.ref b149), .val (.int v5), .val (.int v6), .val (.ref b178), .val (.int (0 : Int32)), .unset, .unset, .unset, .unset, .unset, .unset, .unset, .unset, .unset, .unset, .unset] [(.ref b111), (.ref b178)])) rfl (by rw [hml]; rfl) (Steps.refl _) (argsL := [(.ref b111)]) (rest := []) (lenOf pd13 rfl) rfl (by show 2 * 0 + _ ≤ _; exact Nat.le_of_eq rfl) (hb hby at_139) (fun _ _ => ⟨rfl, (rfl : T218.heap = T218.heap), (by decide : 11 + 0 ≤ _), (by decide : 129 + 0 ≤ _)⟩)
  dsimp only [Pt.U, Pt.locs, Pt.cells, Pt.slots] at X235 l235 y235 z235 st235 hQ235
  subst l235 y235 z235
  obtain ⟨rfl, N235q, K235q, F235_0, F235_1, F235_2, F235_3, F235_4, F235_5, F235_6, F235_7, F235_8, F235_9, F235_10, F235_11, F235_12, F235_13, F235_14⟩ := hQ235
  have F236 := F219.keep K235q
  have F237 := F220.keep K235q (ninS ne_b101_b178 (ninS ne_b101_b202_0 (ninS ne_b101_b202_1 (ninS ne_b101_b202_2 (ninS ne_b101_b202_5 (ninS ne_b101_b202_3 nin0))))))
  have F238 := F221.keep K235q (ninS ne_b101_b178 (ninS ne_b101_b202_0 (ninS ne_b101_b202_1 (ninS ne_b101_b202_2 (ninS ne_b101_b202_5 (ninS ne_b101_b202_3 nin0))))))
  have F239 := F222.keep K235q
  have F240 := F223.keep K235q (ninS ne_b111_b178 (ninS ne_b111_b202_0 (ninS ne_b111_b202_1 (ninS ne_b111_b202_2 (ninS ne_b111_b202_5 (ninS ne_b111_b202_3 nin0))))))
  have F241 := F224.keep K235q (ninS ne_b111_b178 (ninS ne_b111_b202_0 (ninS ne_b111_b202_1 (ninS ne_b111_b202_2 (ninS ne_b111_b202_5 (ninS ne_b111_b202_3 nin0))))))
  have F242 := F225.keep K235q
  have F243 := F226.keep K235q (ninS ne_b127_b178 (ninS ne_b127_b202_0 (ninS ne_b127_b202_1 (ninS ne_b127_b202_2 (ninS ne_b127_b202_5 (ninS ne_b127_b202_3 nin0))))))
  have F244 := F227.keep K235q (ninS ne_b127_b178 (ninS ne_b127_b202_0 (ninS ne_b127_b202_1 (ninS ne_b127_b202_2 (ninS ne_b127_b202_5 (ninS ne_b127_b202_3 nin0))))))
  have F245 := F228.keep K235q
  have F246 := F229.keep K235q (ninS ne_b149_b178 (ninS ne_b149_b202_0 (ninS ne_b149_b202_1 (ninS ne_b149_b202_2 (ninS ne_b149_b202_5 (ninS ne_b149_b202_3 nin0))))))
  have F247 := F230.keep K235q (ninS ne_b149_b178 (ninS ne_b149_b202_0 (ninS ne_b149_b202_1 (ninS ne_b149_b202_2 (ninS ne_b149_b202_5 (ninS ne_b149_b202_3 nin0))))))
  have F248 := F218_0.keep K235q
  have F249 := F232.keep K235q (ninS (Ne.symm ne_b178_b202_4) (ninS (Ne.symm F202_9) (ninS (Ne.symm F202_13) (ninS (Ne.symm F202_16) (ninS F202_20 (ninS (Ne.symm F202_18) nin0))))))
  have Z250 : n0 ≤ T235.heap.size := Nat.le_trans Z233 K235q.1
  have K251 : Keep h0 T235.heap [] := K234.trans K235q (allS (Or.inr sz_b178) (allS (Or.inr sz_b202_0) (allS (Or.inr sz_b202_1) (allS (Or.inr sz_b202_2) (allS (Or.inr sz_b202_5) (allS (Or.inr sz_b202_3) all0))))))
  have F235_8f : Fld Z T235.heap b178 "com/example/upper_falls/upperfalls/HeldKeys" "used" "I" (.int (2 : Int32)) := F235_8
  obtain ⟨v18, hv18⟩ : ∃ z : Nat → Int64, z = (own_up v13 ((1 : Int32).toNatClampNeg) v2) := ⟨_, rfl⟩
  have F235_10n : own_AJ Z T235.heap b202_0 .long 16 v18 := by rw [hv18]; exact F235_10
  obtain ⟨v19, hv19⟩ : ∃ z : Nat → Int64, z = (own_up v14 ((1 : Int32).toNatClampNeg) (1 : Int64)) := ⟨_, rfl⟩
  have F235_11n : own_AJ Z T235.heap b202_1 .long 16 v19 := by rw [hv19]; exact F235_11
  obtain ⟨v20, hv20⟩ : ∃ z : Nat → Int64, z = (own_up v15 ((1 : Int32).toNatClampNeg) (0 : Int64)) := ⟨_, rfl⟩
  have F235_12n : own_AJ Z T235.heap b202_2 .long 16 v20 := by rw [hv20]; exact F235_12
  obtain ⟨v21, hv21⟩ : ∃ z : Nat → Int32, z = (own_up v16 ((own_E (own_F1 ((v1.toInt32) &&& (31 : Int32))) ((v2.toInt32) &&& (31 : Int32))).toNatClampNeg) (1 : Int32)) := ⟨_, rfl⟩
  have F235_13n : own_AI Z T235.heap b202_5 .int 32 v21 := by rw [hv21]; exact F235_13
  obtain ⟨v22, hv22⟩ : ∃ z : Nat → Int32, z = (own_up v17 ((1 : Int32).toNatClampNeg) ((v17 (1 : Int32).toNatClampNeg) + (1 : Int32))) := ⟨_, rfl⟩
  have F235_14n : own_AI Z T235.heap b202_3 .int 16 v22 := by rw [hv22]; exact F235_14
  have N235 := Fr.app N218 N235q
  have hF2 : v21 = (own_F2 ((v1.toInt32) &&& (31 : Int32)) ((v2.toInt32) &&& (31 : Int32))) := by rw [hv21, hF1]; rfl
  have G2 := own_Gs G1 hv19 (by decide) rfl
  obtain ⟨cq252, kq252, q252a, q252b, q252c⟩ := isOf hZ (rfl : T235.heap = T235.heap) F235_0
  obtain ⟨_, _, ⟨T252, L252, k252, n252⟩, -, X252, ⟨Lc252, hQ252, l252, y252, z252⟩, st252⟩ := X235.virtualBack hx (y := (⟨"com/example/upper_falls/upperfalls/HeldKeys", "hold", "(Lcom/example/upper_falls/upperfalls/KeyHash;)I"⟩ : MethodName)) (z := (⟨"com/example/upper_falls/upperfalls/HeldKeys", "hold", "(Lcom/example/upper_falls/upperfalls/KeyHash;)I"⟩ : MethodName)) hown (mvT hZ (own_wd hw 71 rfl)) (mvT hZ (own_wd hw 72 rfl)) (notFace_of_selects (args := #[]) (mvT hZ (own_wd hw 74 rfl))) (mvT hZ (own_wd hw 74 rfl)) (mvT hZ (own_wd hw 73 rfl)) (by decide) (backOf (W := 0) (rmhn l Z a0 hw [] b178 b127 b202_0 b202_1 b202_2 b202_3 b202_4 b202_5 v18 v19 v20 v22 v11 v21 v3 (2 : Int64) (2 : Int32) (2 : Int32) 2 (own_E (own_F2 ((v1.toInt32) &&& (31 : Int32)) ((v2.toInt32) &&& (31 : Int32))) ((v3.toInt32) &&& (31 : Int32))) (T235.heap) n0 Z250 F235_0 F235_1 F235_2 F235_3 F235_4 F235_5 F235_6 F235_7 F235_8f F235_9 F235_10n F235_11n F235_12n F235_14n F249 F235_13n F242 F243 F244 ((by rw [hF2]; exact own_V2) : own_V 2 v21) ((own_Mk (t := 2) (by decide) (by decide) rfl rfl G2 (fun q => absurd q (by decide))) : own_M 2 v18 v19 (2 : Int32) v3 (2 : Int64)) (by decide : 2 ≤ 3) ((by rw [hF2]; exact cf2) : own_fnd v21 (2 : Int32) 8 ((v3.toInt32) &&& (31 : Int32)) = some (-1 : Int32)) (by decide : (¬ (2 : Int32) < 0 ∧ (2 : Int32).toNatClampNeg < 16)) ((by rw [hF2]; exact ce2) : own_emp v21 8 ((v3.toInt32) &&& (31 : Int32)) = some (own_E (own_F2 ((v1.toInt32) &&& (31 : Int32)) ((v2.toInt32) &&& (31 : Int32))) ((v3.toInt32) &&& (31 : Int32)))) (Ne.symm ne_b178_b202_0) (Ne.symm ne_b178_b202_1) (Ne.symm ne_b178_b202_2) (Ne.symm ne_b178_b202_3) (Ne.symm ne_b178_b202_4) (Ne.symm ne_b178_b202_5) ne_b127_b178 g_b178 ne_b178_b202_0 (Ne.symm F202_6) (Ne.symm F202_7) (Ne.symm F202_8) (Ne.symm F202_9) (Ne.symm F202_10) ne_b127_b202_0 g_b202_0 ne_b178_b202_1 (Ne.symm F202_11) (Ne.symm F202_12) (Ne.symm F202_13) (Ne.symm F202_14) ne_b127_b202_1 F202_6 g_b202_1 ne_b178_b202_2 (Ne.symm F202_15) (Ne.symm F202_16) (Ne.symm F202_17) ne_b127_b202_2 F202_7 F202_11 g_b202_2 ne_b178_b202_5 F202_19 F202_20 ne_b127_b202_5 F202_10 F202_14 F202_17 g_b202_5 ne_b178_b202_3 (Ne.symm F202_18) ne_b127_b202_3 F202_8 F202_12 F202_15 (Ne.symm F202_19) g_b202_3) hZ (own_wd hw 75 rfl) (own_wd hw 27 rfl) (by decide) (by decide)) q252a q252c (g := (mkF m 148 #[.val (.long q0), .second, .val (.long q1), .second, .val (.long q2), .second, .val (.long q3), .second, .val (.int p4), .val (.ref b101), .val (.ref b111), .val (.ref b127), .val (.ref b149), .val (.int v5), .val (.int v6), .val (.ref b178), .val (.int (0 : Int32)), .val (.int (1 : Int32)), .unset, .unset, .unset, .unset, .unset, .unset, .unset, .unset, .unset, .unset] [(.ref b127), (.ref b178)])) rfl (by rw [hml]; rfl) (Steps.refl _) (argsL := [(.ref b127)]) (rest := []) (lenOf pd13 rfl) rfl (by show 2 * 0 + _ ≤ _; exact Nat.le_of_eq rfl) (hb hby at_148) (fun _ _ => ⟨rfl, (rfl : T235.heap = T235.heap), (by decide : 11 + 0 ≤ _), (by decide : 129 + 0 ≤ _)⟩)
  dsimp only [Pt.U, Pt.locs, Pt.cells, Pt.slots] at X252 l252 y252 z252 st252 hQ252
  subst l252 y252 z252
  obtain ⟨rfl, N252q, K252q, F252_0, F252_1, F252_2, F252_3, F252_4, F252_5, F252_6, F252_7, F252_8, F252_9, F252_10, F252_11, F252_12, F252_13, F252_14⟩ := hQ252
  have F253 := F236.keep K252q
  have F254 := F237.keep K252q (ninS ne_b101_b178 (ninS ne_b101_b202_0 (ninS ne_b101_b202_1 (ninS ne_b101_b202_2 (ninS ne_b101_b202_5 (ninS ne_b101_b202_3 nin0))))))
  have F255 := F238.keep K252q (ninS ne_b101_b178 (ninS ne_b101_b202_0 (ninS ne_b101_b202_1 (ninS ne_b101_b202_2 (ninS ne_b101_b202_5 (ninS ne_b101_b202_3 nin0))))))
  have F256 := F239.keep K252q
  have F257 := F240.keep K252q (ninS ne_b111_b178 (ninS ne_b111_b202_0 (ninS ne_b111_b202_1 (ninS ne_b111_b202_2 (ninS ne_b111_b202_5 (ninS ne_b111_b202_3 nin0))))))
  have F258 := F241.keep K252q (ninS ne_b111_b178 (ninS ne_b111_b202_0 (ninS ne_b111_b202_1 (ninS ne_b111_b202_2 (ninS ne_b111_b202_5 (ninS ne_b111_b202_3 nin0))))))
  have F259 := F242.keep K252q
  have F260 := F243.keep K252q (ninS ne_b127_b178 (ninS ne_b127_b202_0 (ninS ne_b127_b202_1 (ninS ne_b127_b202_2 (ninS ne_b127_b202_5 (ninS ne_b127_b202_3 nin0))))))
  have F261 := F244.keep K252q (ninS ne_b127_b178 (ninS ne_b127_b202_0 (ninS ne_b127_b202_1 (ninS ne_b127_b202_2 (ninS ne_b127_b202_5 (ninS ne_b127_b202_3 nin0))))))
  have F262 := F245.keep K252q
  have F263 := F246.keep K252q (ninS ne_b149_b178 (ninS ne_b149_b202_0 (ninS ne_b149_b202_1 (ninS ne_b149_b202_2 (ninS ne_b149_b202_5 (ninS ne_b149_b202_3 nin0))))))
  have F264 := F247.keep K252q (ninS ne_b149_b178 (ninS ne_b149_b202_0 (ninS ne_b149_b202_1 (ninS ne_b149_b202_2 (ninS ne_b149_b202_5 (ninS ne_b149_b202_3 nin0))))))
  have F265 := F235_0.keep K252q
  have F266 := F249.keep K252q (ninS (Ne.symm ne_b178_b202_4) (ninS (Ne.symm F202_9) (ninS (Ne.symm F202_13) (ninS (Ne.symm F202_16) (ninS F202_20 (ninS (Ne.symm F202_18) nin0))))))
  have Z267 : n0 ≤ T252.heap.size := Nat.le_trans Z250 K252q.1
  have K268 : Keep h0 T252.heap [] := K251.trans K252q (allS (Or.inr sz_b178) (allS (Or.inr sz_b202_0) (allS (Or.inr sz_b202_1) (allS (Or.inr sz_b202_2) (allS (Or.inr sz_b202_5) (allS (Or.inr sz_b202_3) all0))))))
  have F252_8f : Fld Z T252.heap b178 "com/example/upper_falls/upperfalls/HeldKeys" "used" "I" (.int (3 : Int32)) := F252_8
  obtain ⟨v23, hv23⟩ : ∃ z : Nat → Int64, z = (own_up v18 ((2 : Int32).toNatClampNeg) v3) := ⟨_, rfl⟩
  have F252_10n : own_AJ Z T252.heap b202_0 .long 16 v23 := by rw [hv23]; exact F252_10
  obtain ⟨v24, hv24⟩ : ∃ z : Nat → Int64, z = (own_up v19 ((2 : Int32).toNatClampNeg) (2 : Int64)) := ⟨_, rfl⟩
  have F252_11n : own_AJ Z T252.heap b202_1 .long 16 v24 := by rw [hv24]; exact F252_11
  obtain ⟨v25, hv25⟩ : ∃ z : Nat → Int64, z = (own_up v20 ((2 : Int32).toNatClampNeg) (0 : Int64)) := ⟨_, rfl⟩
  have F252_12n : own_AJ Z T252.heap b202_2 .long 16 v25 := by rw [hv25]; exact F252_12
  obtain ⟨v26, hv26⟩ : ∃ z : Nat → Int32, z = (own_up v21 ((own_E (own_F2 ((v1.toInt32) &&& (31 : Int32)) ((v2.toInt32) &&& (31 : Int32))) ((v3.toInt32) &&& (31 : Int32))).toNatClampNeg) (2 : Int32)) := ⟨_, rfl⟩
  have F252_13n : own_AI Z T252.heap b202_5 .int 32 v26 := by rw [hv26]; exact F252_13
  obtain ⟨v27, hv27⟩ : ∃ z : Nat → Int32, z = (own_up v22 ((2 : Int32).toNatClampNeg) ((v22 (2 : Int32).toNatClampNeg) + (1 : Int32))) := ⟨_, rfl⟩
  have F252_14n : own_AI Z T252.heap b202_3 .int 16 v27 := by rw [hv27]; exact F252_14
  have N252 := Fr.app N235 N252q
  have hF3 : v26 = (own_F3 ((v1.toInt32) &&& (31 : Int32)) ((v2.toInt32) &&& (31 : Int32)) ((v3.toInt32) &&& (31 : Int32))) := by rw [hv26, hF2]; rfl
  have G3 := own_Gs G2 hv24 (by decide) rfl
  have P0 : v23 0 = v1 := by rw [hv23, hv18, hv13]; rfl
  have P1 : v23 1 = v2 := by rw [hv23, hv18, hv13]; rfl
  have P2 : v23 2 = v3 := by rw [hv23, hv18, hv13]; rfl
  have HH3 := own_HH3 P0 P1 P2
  have hgo269 : ∀ t, Steps p.tables e below (T252.setTop (mkF m 172 #[.val (.long q0), .second, .val (.long q1), .second, .val (.long q2), .second, .val (.long q3), .second, .val (.int p4), .val (.ref b101), .val (.ref b111), .val (.ref b127), .val (.ref b149), .val (.int v5), .val (.int v6), .val (.ref b178), .val (.int (0 : Int32)), .val (.int (1 : Int32)), .val (.int (2 : Int32)), .unset, .unset, .unset, .unset, .unset, .unset, .unset, .unset, .unset] [])) t → Steps p.tables e below (s₁.setTop (mkF m 0 #[.val (.long q0), .second, .val (.long q1), .second, .val (.long q2), .second, .val (.long q3), .second, .val (.int p4), .unset, .unset, .unset, .unset, .unset, .unset, .unset, .unset, .unset, .unset, .unset, .unset, .unset, .unset, .unset, .unset, .unset, .unset, .unset] [])) t := by
    intro t kt
    show Steps p.tables e below (s₁.setTop (mkF m 0 #[.val (.long q0), .second, .val (.long q1), .second, .val (.long q2), .second, .val (.long q3), .second, .val (.int p4), .unset, .unset, .unset, .unset, .unset, .unset, .unset, .unset, .unset, .unset, .unset, .unset, .unset, .unset, .unset, .unset, .unset, .unset, .unset] [])) _
    refine st101 _ ?_
    show Steps p.tables e below (T101.setTop (mkF m 3 #[.val (.long q0), .second, .val (.long q1), .second, .val (.long q2), .second, .val (.long q3), .second, .val (.int p4), .unset, .unset, .unset, .unset, .unset, .unset, .unset, .unset, .unset, .unset, .unset, .unset, .unset, .unset, .unset, .unset, .unset, .unset, .unset] [(.ref b101)])) _
    refine XS.dup X101.here hx rfl (hb hby at_3) rfl rfl ?_
    show Steps p.tables e below (T101.setTop (mkF m 4 #[.val (.long q0), .second, .val (.long q1), .second, .val (.long q2), .second, .val (.long q3), .second, .val (.int p4), .unset, .unset, .unset, .unset, .unset, .unset, .unset, .unset, .unset, .unset, .unset, .unset, .unset, .unset, .unset, .unset, .unset, .unset, .unset] [(.ref b101), (.ref b101)])) _
    refine XS.lloadN X101.here hx rfl (hb hby at_4) rfl ?_
    show Steps p.tables e below (T101.setTop (mkF m 5 #[.val (.long q0), .second, .val (.long q1), .second, .val (.long q2), .second, .val (.long q3), .second, .val (.int p4), .unset, .unset, .unset, .unset, .unset, .unset, .unset, .unset, .unset, .unset, .unset, .unset, .unset, .unset, .unset, .unset, .unset, .unset, .unset] [(.long q0), (.ref b101), (.ref b101)])) _
    refine X101.ldc2Long hx hown (mvT hZ (own_wd hw 3 rfl)) (g := (mkF m 5 #[.val (.long q0), .second, .val (.long q1), .second, .val (.long q2), .second, .val (.long q3), .second, .val (.int p4), .unset, .unset, .unset, .unset, .unset, .unset, .unset, .unset, .unset, .unset, .unset, .unset, .unset, .unset, .unset, .unset, .unset, .unset, .unset] [(.long q0), (.ref b101), (.ref b101)])) rfl (hb hby at_5) _ ?_
    show Steps p.tables e below (T101.setTop (mkF m 8 #[.val (.long q0), .second, .val (.long q1), .second, .val (.long q2), .second, .val (.long q3), .second, .val (.int p4), .unset, .unset, .unset, .unset, .unset, .unset, .unset, .unset, .unset, .unset, .unset, .unset, .unset, .unset, .unset, .unset, .unset, .unset, .unset] [(.long (-32 : Int64)), (.long q0), (.ref b101), (.ref b101)])) _
    refine XS.land X101.here hx rfl (hb hby at_8) rfl ?_
    show Steps p.tables e below (T101.setTop (mkF m 9 #[.val (.long q0), .second, .val (.long q1), .second, .val (.long q2), .second, .val (.long q3), .second, .val (.int p4), .unset, .unset, .unset, .unset, .unset, .unset, .unset, .unset, .unset, .unset, .unset, .unset, .unset, .unset, .unset, .unset, .unset, .unset, .unset] [(.long (q0 &&& (-32 : Int64))), (.ref b101), (.ref b101)])) _
    refine XS.iload X101.here hx rfl (hb hby at_9) rfl ?_
    refine XS.iconst X101.here hx rfl (hb hby at_11) ?_
    show Steps p.tables e below (T101.setTop (mkF m 12 #[.val (.long q0), .second, .val (.long q1), .second, .val (.long q2), .second, .val (.long q3), .second, .val (.int p4), .unset, .unset, .unset, .unset, .unset, .unset, .unset, .unset, .unset, .unset, .unset, .unset, .unset, .unset, .unset, .unset, .unset, .unset, .unset] [(.int (0 : Int32)), (.int p4), (.long (q0 &&& (-32 : Int64))), (.ref b101), (.ref b101)])) _
    refine st106 _ ?_
    show Steps p.tables e below (T106.setTop (mkF m 15 #[.val (.long q0), .second, .val (.long q1), .second, .val (.long q2), .second, .val (.long q3), .second, .val (.int p4), .unset, .unset, .unset, .unset, .unset, .unset, .unset, .unset, .unset, .unset, .unset, .unset, .unset, .unset, .unset, .unset, .unset, .unset, .unset] [(.long (own_rlh p4 (0 : Int32))), (.long (q0 &&& (-32 : Int64))), (.ref b101), (.ref b101)])) _
    refine XS.lor X106.here hx rfl (hb hby at_15) rfl ?_
    show Steps p.tables e below (T106.setTop (mkF m 16 #[.val (.long q0), .second, .val (.long q1), .second, .val (.long q2), .second, .val (.long q3), .second, .val (.int p4), .unset, .unset, .unset, .unset, .unset, .unset, .unset, .unset, .unset, .unset, .unset, .unset, .unset, .unset, .unset, .unset, .unset, .unset, .unset] [(.long ((q0 &&& (-32 : Int64)) ||| (own_rlh p4 (0 : Int32)))), (.ref b101), (.ref b101)])) _
    refine XS.lconst X106.here hx rfl (hb hby at_16) ?_
    show Steps p.tables e below (T106.setTop (mkF m 17 #[.val (.long q0), .second, .val (.long q1), .second, .val (.long q2), .second, .val (.long q3), .second, .val (.int p4), .unset, .unset, .unset, .unset, .unset, .unset, .unset, .unset, .unset, .unset, .unset, .unset, .unset, .unset, .unset, .unset, .unset, .unset, .unset] [(.long (0 : Int64)), (.long ((q0 &&& (-32 : Int64)) ||| (own_rlh p4 (0 : Int32)))), (.ref b101), (.ref b101)])) _
    rw [← hv1]
    show Steps p.tables e below (T106.setTop (mkF m 17 #[.val (.long q0), .second, .val (.long q1), .second, .val (.long q2), .second, .val (.long q3), .second, .val (.int p4), .unset, .unset, .unset, .unset, .unset, .unset, .unset, .unset, .unset, .unset, .unset, .unset, .unset, .unset, .unset, .unset, .unset, .unset, .unset] [(.long (0 : Int64)), (.long v1), (.ref b101), (.ref b101)])) _
    refine st107.trans ?_
    show Steps p.tables e below (T107.setTop (mkF m 20 #[.val (.long q0), .second, .val (.long q1), .second, .val (.long q2), .second, .val (.long q3), .second, .val (.int p4), .unset, .unset, .unset, .unset, .unset, .unset, .unset, .unset, .unset, .unset, .unset, .unset, .unset, .unset, .unset, .unset, .unset, .unset, .unset] [(.ref b101)])) _
    refine XS.astore X107.here hx rfl (hb hby at_20) rfl rfl (l' := #[.val (.long q0), .second, .val (.long q1), .second, .val (.long q2), .second, .val (.long q3), .second, .val (.int p4), .val (.ref b101), .unset, .unset, .unset, .unset, .unset, .unset, .unset, .unset, .unset, .unset, .unset, .unset, .unset, .unset, .unset, .unset, .unset, .unset]) rfl ?_
    show Steps p.tables e below (T107.setTop (mkF m 22 #[.val (.long q0), .second, .val (.long q1), .second, .val (.long q2), .second, .val (.long q3), .second, .val (.int p4), .val (.ref b101), .unset, .unset, .unset, .unset, .unset, .unset, .unset, .unset, .unset, .unset, .unset, .unset, .unset, .unset, .unset, .unset, .unset, .unset] [])) _
    refine st111 _ ?_
    show Steps p.tables e below (T111.setTop (mkF m 25 #[.val (.long q0), .second, .val (.long q1), .second, .val (.long q2), .second, .val (.long q3), .second, .val (.int p4), .val (.ref b101), .unset, .unset, .unset, .unset, .unset, .unset, .unset, .unset, .unset, .unset, .unset, .unset, .unset, .unset, .unset, .unset, .unset, .unset] [(.ref b111)])) _
    refine XS.dup X111.here hx rfl (hb hby at_25) rfl rfl ?_
    show Steps p.tables e below (T111.setTop (mkF m 26 #[.val (.long q0), .second, .val (.long q1), .second, .val (.long q2), .second, .val (.long q3), .second, .val (.int p4), .val (.ref b101), .unset, .unset, .unset, .unset, .unset, .unset, .unset, .unset, .unset, .unset, .unset, .unset, .unset, .unset, .unset, .unset, .unset, .unset] [(.ref b111), (.ref b111)])) _
    refine XS.lloadN X111.here hx rfl (hb hby at_26) rfl ?_
    show Steps p.tables e below (T111.setTop (mkF m 27 #[.val (.long q0), .second, .val (.long q1), .second, .val (.long q2), .second, .val (.long q3), .second, .val (.int p4), .val (.ref b101), .unset, .unset, .unset, .unset, .unset, .unset, .unset, .unset, .unset, .unset, .unset, .unset, .unset, .unset, .unset, .unset, .unset, .unset] [(.long q1), (.ref b111), (.ref b111)])) _
    refine X111.ldc2Long hx hown (mvT hZ (own_wd hw 3 rfl)) (g := (mkF m 27 #[.val (.long q0), .second, .val (.long q1), .second, .val (.long q2), .second, .val (.long q3), .second, .val (.int p4), .val (.ref b101), .unset, .unset, .unset, .unset, .unset, .unset, .unset, .unset, .unset, .unset, .unset, .unset, .unset, .unset, .unset, .unset, .unset, .unset] [(.long q1), (.ref b111), (.ref b111)])) rfl (hb hby at_27) _ ?_
    show Steps p.tables e below (T111.setTop (mkF m 30 #[.val (.long q0), .second, .val (.long q1), .second, .val (.long q2), .second, .val (.long q3), .second, .val (.int p4), .val (.ref b101), .unset, .unset, .unset, .unset, .unset, .unset, .unset, .unset, .unset, .unset, .unset, .unset, .unset, .unset, .unset, .unset, .unset, .unset] [(.long (-32 : Int64)), (.long q1), (.ref b111), (.ref b111)])) _
    refine XS.land X111.here hx rfl (hb hby at_30) rfl ?_
    show Steps p.tables e below (T111.setTop (mkF m 31 #[.val (.long q0), .second, .val (.long q1), .second, .val (.long q2), .second, .val (.long q3), .second, .val (.int p4), .val (.ref b101), .unset, .unset, .unset, .unset, .unset, .unset, .unset, .unset, .unset, .unset, .unset, .unset, .unset, .unset, .unset, .unset, .unset, .unset] [(.long (q1 &&& (-32 : Int64))), (.ref b111), (.ref b111)])) _
    refine XS.iload X111.here hx rfl (hb hby at_31) rfl ?_
    refine XS.iconst X111.here hx rfl (hb hby at_33) ?_
    show Steps p.tables e below (T111.setTop (mkF m 34 #[.val (.long q0), .second, .val (.long q1), .second, .val (.long q2), .second, .val (.long q3), .second, .val (.int p4), .val (.ref b101), .unset, .unset, .unset, .unset, .unset, .unset, .unset, .unset, .unset, .unset, .unset, .unset, .unset, .unset, .unset, .unset, .unset, .unset] [(.int (2 : Int32)), (.int p4), (.long (q1 &&& (-32 : Int64))), (.ref b111), (.ref b111)])) _
    refine st119 _ ?_
    show Steps p.tables e below (T119.setTop (mkF m 37 #[.val (.long q0), .second, .val (.long q1), .second, .val (.long q2), .second, .val (.long q3), .second, .val (.int p4), .val (.ref b101), .unset, .unset, .unset, .unset, .unset, .unset, .unset, .unset, .unset, .unset, .unset, .unset, .unset, .unset, .unset, .unset, .unset, .unset] [(.long (own_rlh p4 (2 : Int32))), (.long (q1 &&& (-32 : Int64))), (.ref b111), (.ref b111)])) _
    refine XS.lor X119.here hx rfl (hb hby at_37) rfl ?_
    show Steps p.tables e below (T119.setTop (mkF m 38 #[.val (.long q0), .second, .val (.long q1), .second, .val (.long q2), .second, .val (.long q3), .second, .val (.int p4), .val (.ref b101), .unset, .unset, .unset, .unset, .unset, .unset, .unset, .unset, .unset, .unset, .unset, .unset, .unset, .unset, .unset, .unset, .unset, .unset] [(.long ((q1 &&& (-32 : Int64)) ||| (own_rlh p4 (2 : Int32)))), (.ref b111), (.ref b111)])) _
    refine XS.lconst X119.here hx rfl (hb hby at_38) ?_
    show Steps p.tables e below (T119.setTop (mkF m 39 #[.val (.long q0), .second, .val (.long q1), .second, .val (.long q2), .second, .val (.long q3), .second, .val (.int p4), .val (.ref b101), .unset, .unset, .unset, .unset, .unset, .unset, .unset, .unset, .unset, .unset, .unset, .unset, .unset, .unset, .unset, .unset, .unset, .unset] [(.long (1 : Int64)), (.long ((q1 &&& (-32 : Int64)) ||| (own_rlh p4 (2 : Int32)))), (.ref b111), (.ref b111)])) _
    rw [← hv2]
    show Steps p.tables e below (T119.setTop (mkF m 39 #[.val (.long q0), .second, .val (.long q1), .second, .val (.long q2), .second, .val (.long q3), .second, .val (.int p4), .val (.ref b101), .unset, .unset, .unset, .unset, .unset, .unset, .unset, .unset, .unset, .unset, .unset, .unset, .unset, .unset, .unset, .unset, .unset, .unset] [(.long (1 : Int64)), (.long v2), (.ref b111), (.ref b111)])) _
    refine st120.trans ?_
    show Steps p.tables e below (T120.setTop (mkF m 42 #[.val (.long q0), .second, .val (.long q1), .second, .val (.long q2), .second, .val (.long q3), .second, .val (.int p4), .val (.ref b101), .unset, .unset, .unset, .unset, .unset, .unset, .unset, .unset, .unset, .unset, .unset, .unset, .unset, .unset, .unset, .unset, .unset, .unset] [(.ref b111)])) _
    refine XS.astore X120.here hx rfl (hb hby at_42) rfl rfl (l' := #[.val (.long q0), .second, .val (.long q1), .second, .val (.long q2), .second, .val (.long q3), .second, .val (.int p4), .val (.ref b101), .val (.ref b111), .unset, .unset, .unset, .unset, .unset, .unset, .unset, .unset, .unset, .unset, .unset, .unset, .unset, .unset, .unset, .unset, .unset]) rfl ?_
    show Steps p.tables e below (T120.setTop (mkF m 44 #[.val (.long q0), .second, .val (.long q1), .second, .val (.long q2), .second, .val (.long q3), .second, .val (.int p4), .val (.ref b101), .val (.ref b111), .unset, .unset, .unset, .unset, .unset, .unset, .unset, .unset, .unset, .unset, .unset, .unset, .unset, .unset, .unset, .unset, .unset] [])) _
    refine st127 _ ?_
    show Steps p.tables e below (T127.setTop (mkF m 47 #[.val (.long q0), .second, .val (.long q1), .second, .val (.long q2), .second, .val (.long q3), .second, .val (.int p4), .val (.ref b101), .val (.ref b111), .unset, .unset, .unset, .unset, .unset, .unset, .unset, .unset, .unset, .unset, .unset, .unset, .unset, .unset, .unset, .unset, .unset] [(.ref b127)])) _
    refine XS.dup X127.here hx rfl (hb hby at_47) rfl rfl ?_
    show Steps p.tables e below (T127.setTop (mkF m 48 #[.val (.long q0), .second, .val (.long q1), .second, .val (.long q2), .second, .val (.long q3), .second, .val (.int p4), .val (.ref b101), .val (.ref b111), .unset, .unset, .unset, .unset, .unset, .unset, .unset, .unset, .unset, .unset, .unset, .unset, .unset, .unset, .unset, .unset, .unset] [(.ref b127), (.ref b127)])) _
    refine XS.lload X127.here hx rfl (hb hby at_48) rfl ?_
    show Steps p.tables e below (T127.setTop (mkF m 50 #[.val (.long q0), .second, .val (.long q1), .second, .val (.long q2), .second, .val (.long q3), .second, .val (.int p4), .val (.ref b101), .val (.ref b111), .unset, .unset, .unset, .unset, .unset, .unset, .unset, .unset, .unset, .unset, .unset, .unset, .unset, .unset, .unset, .unset, .unset] [(.long q2), (.ref b127), (.ref b127)])) _
    refine X127.ldc2Long hx hown (mvT hZ (own_wd hw 3 rfl)) (g := (mkF m 50 #[.val (.long q0), .second, .val (.long q1), .second, .val (.long q2), .second, .val (.long q3), .second, .val (.int p4), .val (.ref b101), .val (.ref b111), .unset, .unset, .unset, .unset, .unset, .unset, .unset, .unset, .unset, .unset, .unset, .unset, .unset, .unset, .unset, .unset, .unset] [(.long q2), (.ref b127), (.ref b127)])) rfl (hb hby at_50) _ ?_
    show Steps p.tables e below (T127.setTop (mkF m 53 #[.val (.long q0), .second, .val (.long q1), .second, .val (.long q2), .second, .val (.long q3), .second, .val (.int p4), .val (.ref b101), .val (.ref b111), .unset, .unset, .unset, .unset, .unset, .unset, .unset, .unset, .unset, .unset, .unset, .unset, .unset, .unset, .unset, .unset, .unset] [(.long (-32 : Int64)), (.long q2), (.ref b127), (.ref b127)])) _
    refine XS.land X127.here hx rfl (hb hby at_53) rfl ?_
    show Steps p.tables e below (T127.setTop (mkF m 54 #[.val (.long q0), .second, .val (.long q1), .second, .val (.long q2), .second, .val (.long q3), .second, .val (.int p4), .val (.ref b101), .val (.ref b111), .unset, .unset, .unset, .unset, .unset, .unset, .unset, .unset, .unset, .unset, .unset, .unset, .unset, .unset, .unset, .unset, .unset] [(.long (q2 &&& (-32 : Int64))), (.ref b127), (.ref b127)])) _
    refine XS.iload X127.here hx rfl (hb hby at_54) rfl ?_
    refine XS.iconst X127.here hx rfl (hb hby at_56) ?_
    show Steps p.tables e below (T127.setTop (mkF m 57 #[.val (.long q0), .second, .val (.long q1), .second, .val (.long q2), .second, .val (.long q3), .second, .val (.int p4), .val (.ref b101), .val (.ref b111), .unset, .unset, .unset, .unset, .unset, .unset, .unset, .unset, .unset, .unset, .unset, .unset, .unset, .unset, .unset, .unset, .unset] [(.int (4 : Int32)), (.int p4), (.long (q2 &&& (-32 : Int64))), (.ref b127), (.ref b127)])) _
    refine st138 _ ?_
    show Steps p.tables e below (T138.setTop (mkF m 60 #[.val (.long q0), .second, .val (.long q1), .second, .val (.long q2), .second, .val (.long q3), .second, .val (.int p4), .val (.ref b101), .val (.ref b111), .unset, .unset, .unset, .unset, .unset, .unset, .unset, .unset, .unset, .unset, .unset, .unset, .unset, .unset, .unset, .unset, .unset] [(.long (own_rlh p4 (4 : Int32))), (.long (q2 &&& (-32 : Int64))), (.ref b127), (.ref b127)])) _
    refine XS.lor X138.here hx rfl (hb hby at_60) rfl ?_
    show Steps p.tables e below (T138.setTop (mkF m 61 #[.val (.long q0), .second, .val (.long q1), .second, .val (.long q2), .second, .val (.long q3), .second, .val (.int p4), .val (.ref b101), .val (.ref b111), .unset, .unset, .unset, .unset, .unset, .unset, .unset, .unset, .unset, .unset, .unset, .unset, .unset, .unset, .unset, .unset, .unset] [(.long ((q2 &&& (-32 : Int64)) ||| (own_rlh p4 (4 : Int32)))), (.ref b127), (.ref b127)])) _
    refine X138.ldc2Long hx hown (mvT hZ (own_wd hw 23 rfl)) (g := (mkF m 61 #[.val (.long q0), .second, .val (.long q1), .second, .val (.long q2), .second, .val (.long q3), .second, .val (.int p4), .val (.ref b101), .val (.ref b111), .unset, .unset, .unset, .unset, .unset, .unset, .unset, .unset, .unset, .unset, .unset, .unset, .unset, .unset, .unset, .unset, .unset] [(.long ((q2 &&& (-32 : Int64)) ||| (own_rlh p4 (4 : Int32)))), (.ref b127), (.ref b127)])) rfl (hb hby at_61) _ ?_
    show Steps p.tables e below (T138.setTop (mkF m 64 #[.val (.long q0), .second, .val (.long q1), .second, .val (.long q2), .second, .val (.long q3), .second, .val (.int p4), .val (.ref b101), .val (.ref b111), .unset, .unset, .unset, .unset, .unset, .unset, .unset, .unset, .unset, .unset, .unset, .unset, .unset, .unset, .unset, .unset, .unset] [(.long (2 : Int64)), (.long ((q2 &&& (-32 : Int64)) ||| (own_rlh p4 (4 : Int32)))), (.ref b127), (.ref b127)])) _
    rw [← hv3]
    show Steps p.tables e below (T138.setTop (mkF m 64 #[.val (.long q0), .second, .val (.long q1), .second, .val (.long q2), .second, .val (.long q3), .second, .val (.int p4), .val (.ref b101), .val (.ref b111), .unset, .unset, .unset, .unset, .unset, .unset, .unset, .unset, .unset, .unset, .unset, .unset, .unset, .unset, .unset, .unset, .unset] [(.long (2 : Int64)), (.long v3), (.ref b127), (.ref b127)])) _
    refine st139.trans ?_
    show Steps p.tables e below (T139.setTop (mkF m 67 #[.val (.long q0), .second, .val (.long q1), .second, .val (.long q2), .second, .val (.long q3), .second, .val (.int p4), .val (.ref b101), .val (.ref b111), .unset, .unset, .unset, .unset, .unset, .unset, .unset, .unset, .unset, .unset, .unset, .unset, .unset, .unset, .unset, .unset, .unset] [(.ref b127)])) _
    refine XS.astore X139.here hx rfl (hb hby at_67) rfl rfl (l' := #[.val (.long q0), .second, .val (.long q1), .second, .val (.long q2), .second, .val (.long q3), .second, .val (.int p4), .val (.ref b101), .val (.ref b111), .val (.ref b127), .unset, .unset, .unset, .unset, .unset, .unset, .unset, .unset, .unset, .unset, .unset, .unset, .unset, .unset, .unset, .unset]) rfl ?_
    show Steps p.tables e below (T139.setTop (mkF m 69 #[.val (.long q0), .second, .val (.long q1), .second, .val (.long q2), .second, .val (.long q3), .second, .val (.int p4), .val (.ref b101), .val (.ref b111), .val (.ref b127), .unset, .unset, .unset, .unset, .unset, .unset, .unset, .unset, .unset, .unset, .unset, .unset, .unset, .unset, .unset, .unset] [])) _
    refine st149 _ ?_
    show Steps p.tables e below (T149.setTop (mkF m 72 #[.val (.long q0), .second, .val (.long q1), .second, .val (.long q2), .second, .val (.long q3), .second, .val (.int p4), .val (.ref b101), .val (.ref b111), .val (.ref b127), .unset, .unset, .unset, .unset, .unset, .unset, .unset, .unset, .unset, .unset, .unset, .unset, .unset, .unset, .unset, .unset] [(.ref b149)])) _
    refine XS.dup X149.here hx rfl (hb hby at_72) rfl rfl ?_
    show Steps p.tables e below (T149.setTop (mkF m 73 #[.val (.long q0), .second, .val (.long q1), .second, .val (.long q2), .second, .val (.long q3), .second, .val (.int p4), .val (.ref b101), .val (.ref b111), .val (.ref b127), .unset, .unset, .unset, .unset, .unset, .unset, .unset, .unset, .unset, .unset, .unset, .unset, .unset, .unset, .unset, .unset] [(.ref b149), (.ref b149)])) _
    refine XS.lload X149.here hx rfl (hb hby at_73) rfl ?_
    show Steps p.tables e below (T149.setTop (mkF m 75 #[.val (.long q0), .second, .val (.long q1), .second, .val (.long q2), .second, .val (.long q3), .second, .val (.int p4), .val (.ref b101), .val (.ref b111), .val (.ref b127), .unset, .unset, .unset, .unset, .unset, .unset, .unset, .unset, .unset, .unset, .unset, .unset, .unset, .unset, .unset, .unset] [(.long q3), (.ref b149), (.ref b149)])) _
    refine X149.ldc2Long hx hown (mvT hZ (own_wd hw 3 rfl)) (g := (mkF m 75 #[.val (.long q0), .second, .val (.long q1), .second, .val (.long q2), .second, .val (.long q3), .second, .val (.int p4), .val (.ref b101), .val (.ref b111), .val (.ref b127), .unset, .unset, .unset, .unset, .unset, .unset, .unset, .unset, .unset, .unset, .unset, .unset, .unset, .unset, .unset, .unset] [(.long q3), (.ref b149), (.ref b149)])) rfl (hb hby at_75) _ ?_
    show Steps p.tables e below (T149.setTop (mkF m 78 #[.val (.long q0), .second, .val (.long q1), .second, .val (.long q2), .second, .val (.long q3), .second, .val (.int p4), .val (.ref b101), .val (.ref b111), .val (.ref b127), .unset, .unset, .unset, .unset, .unset, .unset, .unset, .unset, .unset, .unset, .unset, .unset, .unset, .unset, .unset, .unset] [(.long (-32 : Int64)), (.long q3), (.ref b149), (.ref b149)])) _
    refine XS.land X149.here hx rfl (hb hby at_78) rfl ?_
    show Steps p.tables e below (T149.setTop (mkF m 79 #[.val (.long q0), .second, .val (.long q1), .second, .val (.long q2), .second, .val (.long q3), .second, .val (.int p4), .val (.ref b101), .val (.ref b111), .val (.ref b127), .unset, .unset, .unset, .unset, .unset, .unset, .unset, .unset, .unset, .unset, .unset, .unset, .unset, .unset, .unset, .unset] [(.long (q3 &&& (-32 : Int64))), (.ref b149), (.ref b149)])) _
    refine XS.iload X149.here hx rfl (hb hby at_79) rfl ?_
    refine XS.bipush X149.here hx rfl (hb hby at_81) ?_
    show Steps p.tables e below (T149.setTop (mkF m 83 #[.val (.long q0), .second, .val (.long q1), .second, .val (.long q2), .second, .val (.long q3), .second, .val (.int p4), .val (.ref b101), .val (.ref b111), .val (.ref b127), .unset, .unset, .unset, .unset, .unset, .unset, .unset, .unset, .unset, .unset, .unset, .unset, .unset, .unset, .unset, .unset] [(.int (6 : Int32)), (.int p4), (.long (q3 &&& (-32 : Int64))), (.ref b149), (.ref b149)])) _
    refine st163 _ ?_
    show Steps p.tables e below (T163.setTop (mkF m 86 #[.val (.long q0), .second, .val (.long q1), .second, .val (.long q2), .second, .val (.long q3), .second, .val (.int p4), .val (.ref b101), .val (.ref b111), .val (.ref b127), .unset, .unset, .unset, .unset, .unset, .unset, .unset, .unset, .unset, .unset, .unset, .unset, .unset, .unset, .unset, .unset] [(.long (own_rlh p4 (6 : Int32))), (.long (q3 &&& (-32 : Int64))), (.ref b149), (.ref b149)])) _
    refine XS.lor X163.here hx rfl (hb hby at_86) rfl ?_
    show Steps p.tables e below (T163.setTop (mkF m 87 #[.val (.long q0), .second, .val (.long q1), .second, .val (.long q2), .second, .val (.long q3), .second, .val (.int p4), .val (.ref b101), .val (.ref b111), .val (.ref b127), .unset, .unset, .unset, .unset, .unset, .unset, .unset, .unset, .unset, .unset, .unset, .unset, .unset, .unset, .unset, .unset] [(.long ((q3 &&& (-32 : Int64)) ||| (own_rlh p4 (6 : Int32)))), (.ref b149), (.ref b149)])) _
    refine X163.ldc2Long hx hown (mvT hZ (own_wd hw 24 rfl)) (g := (mkF m 87 #[.val (.long q0), .second, .val (.long q1), .second, .val (.long q2), .second, .val (.long q3), .second, .val (.int p4), .val (.ref b101), .val (.ref b111), .val (.ref b127), .unset, .unset, .unset, .unset, .unset, .unset, .unset, .unset, .unset, .unset, .unset, .unset, .unset, .unset, .unset, .unset] [(.long ((q3 &&& (-32 : Int64)) ||| (own_rlh p4 (6 : Int32)))), (.ref b149), (.ref b149)])) rfl (hb hby at_87) _ ?_
    show Steps p.tables e below (T163.setTop (mkF m 90 #[.val (.long q0), .second, .val (.long q1), .second, .val (.long q2), .second, .val (.long q3), .second, .val (.int p4), .val (.ref b101), .val (.ref b111), .val (.ref b127), .unset, .unset, .unset, .unset, .unset, .unset, .unset, .unset, .unset, .unset, .unset, .unset, .unset, .unset, .unset, .unset] [(.long (3 : Int64)), (.long ((q3 &&& (-32 : Int64)) ||| (own_rlh p4 (6 : Int32)))), (.ref b149), (.ref b149)])) _
    rw [← hv4]
    show Steps p.tables e below (T163.setTop (mkF m 90 #[.val (.long q0), .second, .val (.long q1), .second, .val (.long q2), .second, .val (.long q3), .second, .val (.int p4), .val (.ref b101), .val (.ref b111), .val (.ref b127), .unset, .unset, .unset, .unset, .unset, .unset, .unset, .unset, .unset, .unset, .unset, .unset, .unset, .unset, .unset, .unset] [(.long (3 : Int64)), (.long v4), (.ref b149), (.ref b149)])) _
    refine st164.trans ?_
    show Steps p.tables e below (T164.setTop (mkF m 93 #[.val (.long q0), .second, .val (.long q1), .second, .val (.long q2), .second, .val (.long q3), .second, .val (.int p4), .val (.ref b101), .val (.ref b111), .val (.ref b127), .unset, .unset, .unset, .unset, .unset, .unset, .unset, .unset, .unset, .unset, .unset, .unset, .unset, .unset, .unset, .unset] [(.ref b149)])) _
    refine XS.astore X164.here hx rfl (hb hby at_93) rfl rfl (l' := #[.val (.long q0), .second, .val (.long q1), .second, .val (.long q2), .second, .val (.long q3), .second, .val (.int p4), .val (.ref b101), .val (.ref b111), .val (.ref b127), .val (.ref b149), .unset, .unset, .unset, .unset, .unset, .unset, .unset, .unset, .unset, .unset, .unset, .unset, .unset, .unset, .unset]) rfl ?_
    show Steps p.tables e below (T164.setTop (mkF m 95 #[.val (.long q0), .second, .val (.long q1), .second, .val (.long q2), .second, .val (.long q3), .second, .val (.int p4), .val (.ref b101), .val (.ref b111), .val (.ref b127), .val (.ref b149), .unset, .unset, .unset, .unset, .unset, .unset, .unset, .unset, .unset, .unset, .unset, .unset, .unset, .unset, .unset] [])) _
    refine XS.iload X164.here hx rfl (hb hby at_95) rfl ?_
    refine XS.bipush X164.here hx rfl (hb hby at_97) ?_
    refine XS.iushr X164.here hx rfl (hb hby at_99) rfl ?_
    show Steps p.tables e below (T164.setTop (mkF m 100 #[.val (.long q0), .second, .val (.long q1), .second, .val (.long q2), .second, .val (.long q3), .second, .val (.int p4), .val (.ref b101), .val (.ref b111), .val (.ref b127), .val (.ref b149), .unset, .unset, .unset, .unset, .unset, .unset, .unset, .unset, .unset, .unset, .unset, .unset, .unset, .unset, .unset] [(.int ((p4.toUInt32 >>> ((8 : Int32) &&& 31).toUInt32).toInt32))])) _
    refine XS.iconst X164.here hx rfl (hb hby at_100) ?_
    refine XS.iand X164.here hx rfl (hb hby at_101) rfl ?_
    show Steps p.tables e below (T164.setTop (mkF m 102 #[.val (.long q0), .second, .val (.long q1), .second, .val (.long q2), .second, .val (.long q3), .second, .val (.int p4), .val (.ref b101), .val (.ref b111), .val (.ref b127), .val (.ref b149), .unset, .unset, .unset, .unset, .unset, .unset, .unset, .unset, .unset, .unset, .unset, .unset, .unset, .unset, .unset] [(.int (((p4.toUInt32 >>> ((8 : Int32) &&& 31).toUInt32).toInt32) &&& (3 : Int32)))])) _
    refine XS.iconst X164.here hx rfl (hb hby at_102) ?_
    show Steps p.tables e below (T164.setTop (mkF m 103 #[.val (.long q0), .second, .val (.long q1), .second, .val (.long q2), .second, .val (.long q3), .second, .val (.int p4), .val (.ref b101), .val (.ref b111), .val (.ref b127), .val (.ref b149), .unset, .unset, .unset, .unset, .unset, .unset, .unset, .unset, .unset, .unset, .unset, .unset, .unset, .unset, .unset] [(.int (3 : Int32)), (.int (((p4.toUInt32 >>> ((8 : Int32) &&& 31).toUInt32).toInt32) &&& (3 : Int32)))])) _
    refine XS.irem X164.here hx rfl (hb hby at_103) rfl hnz103_177 ?_
    rw [own_remI (((p4.toUInt32 >>> ((8 : Int32) &&& 31).toUInt32).toInt32) &&& (3 : Int32)) (3 : Int32)]
    show Steps p.tables e below (T164.setTop (mkF m 104 #[.val (.long q0), .second, .val (.long q1), .second, .val (.long q2), .second, .val (.long q3), .second, .val (.int p4), .val (.ref b101), .val (.ref b111), .val (.ref b127), .val (.ref b149), .unset, .unset, .unset, .unset, .unset, .unset, .unset, .unset, .unset, .unset, .unset, .unset, .unset, .unset, .unset] [(.int ((((p4.toUInt32 >>> ((8 : Int32) &&& 31).toUInt32).toInt32) &&& (3 : Int32)) % (3 : Int32)))])) _
    rw [← hv5]
    show Steps p.tables e below (T164.setTop (mkF m 104 #[.val (.long q0), .second, .val (.long q1), .second, .val (.long q2), .second, .val (.long q3), .second, .val (.int p4), .val (.ref b101), .val (.ref b111), .val (.ref b127), .val (.ref b149), .unset, .unset, .unset, .unset, .unset, .unset, .unset, .unset, .unset, .unset, .unset, .unset, .unset, .unset, .unset] [(.int v5)])) _
    refine XS.istore X164.here hx rfl (hb hby at_104) rfl (l' := #[.val (.long q0), .second, .val (.long q1), .second, .val (.long q2), .second, .val (.long q3), .second, .val (.int p4), .val (.ref b101), .val (.ref b111), .val (.ref b127), .val (.ref b149), .val (.int v5), .unset, .unset, .unset, .unset, .unset, .unset, .unset, .unset, .unset, .unset, .unset, .unset, .unset, .unset]) rfl ?_
    show Steps p.tables e below (T164.setTop (mkF m 106 #[.val (.long q0), .second, .val (.long q1), .second, .val (.long q2), .second, .val (.long q3), .second, .val (.int p4), .val (.ref b101), .val (.ref b111), .val (.ref b127), .val (.ref b149), .val (.int v5), .unset, .unset, .unset, .unset, .unset, .unset, .unset, .unset, .unset, .unset, .unset, .unset, .unset, .unset] [])) _
    refine XS.iload X164.here hx rfl (hb hby at_106) rfl ?_
    refine XS.bipush X164.here hx rfl (hb hby at_108) ?_
    refine XS.iushr X164.here hx rfl (hb hby at_110) rfl ?_
    show Steps p.tables e below (T164.setTop (mkF m 111 #[.val (.long q0), .second, .val (.long q1), .second, .val (.long q2), .second, .val (.long q3), .second, .val (.int p4), .val (.ref b101), .val (.ref b111), .val (.ref b127), .val (.ref b149), .val (.int v5), .unset, .unset, .unset, .unset, .unset, .unset, .unset, .unset, .unset, .unset, .unset, .unset, .unset, .unset] [(.int ((p4.toUInt32 >>> ((10 : Int32) &&& 31).toUInt32).toInt32))])) _
    refine XS.iconst X164.here hx rfl (hb hby at_111) ?_
    refine XS.iand X164.here hx rfl (hb hby at_112) rfl ?_
    show Steps p.tables e below (T164.setTop (mkF m 113 #[.val (.long q0), .second, .val (.long q1), .second, .val (.long q2), .second, .val (.long q3), .second, .val (.int p4), .val (.ref b101), .val (.ref b111), .val (.ref b127), .val (.ref b149), .val (.int v5), .unset, .unset, .unset, .unset, .unset, .unset, .unset, .unset, .unset, .unset, .unset, .unset, .unset, .unset] [(.int (((p4.toUInt32 >>> ((10 : Int32) &&& 31).toUInt32).toInt32) &&& (3 : Int32)))])) _
    rw [← hv6]
    show Steps p.tables e below (T164.setTop (mkF m 113 #[.val (.long q0), .second, .val (.long q1), .second, .val (.long q2), .second, .val (.long q3), .second, .val (.int p4), .val (.ref b101), .val (.ref b111), .val (.ref b127), .val (.ref b149), .val (.int v5), .unset, .unset, .unset, .unset, .unset, .unset, .unset, .unset, .unset, .unset, .unset, .unset, .unset, .unset] [(.int v6)])) _
    refine XS.istore X164.here hx rfl (hb hby at_113) rfl (l' := #[.val (.long q0), .second, .val (.long q1), .second, .val (.long q2), .second, .val (.long q3), .second, .val (.int p4), .val (.ref b101), .val (.ref b111), .val (.ref b127), .val (.ref b149), .val (.int v5), .val (.int v6), .unset, .unset, .unset, .unset, .unset, .unset, .unset, .unset, .unset, .unset, .unset, .unset, .unset]) rfl ?_
    show Steps p.tables e below (T164.setTop (mkF m 115 #[.val (.long q0), .second, .val (.long q1), .second, .val (.long q2), .second, .val (.long q3), .second, .val (.int p4), .val (.ref b101), .val (.ref b111), .val (.ref b127), .val (.ref b149), .val (.int v5), .val (.int v6), .unset, .unset, .unset, .unset, .unset, .unset, .unset, .unset, .unset, .unset, .unset, .unset, .unset] [])) _
    refine st178 _ ?_
    show Steps p.tables e below (T178.setTop (mkF m 118 #[.val (.long q0), .second, .val (.long q1), .second, .val (.long q2), .second, .val (.long q3), .second, .val (.int p4), .val (.ref b101), .val (.ref b111), .val (.ref b127), .val (.ref b149), .val (.int v5), .val (.int v6), .unset, .unset, .unset, .unset, .unset, .unset, .unset, .unset, .unset, .unset, .unset, .unset, .unset] [(.ref b178)])) _
    refine XS.dup X178.here hx rfl (hb hby at_118) rfl rfl ?_
    show Steps p.tables e below (T178.setTop (mkF m 119 #[.val (.long q0), .second, .val (.long q1), .second, .val (.long q2), .second, .val (.long q3), .second, .val (.int p4), .val (.ref b101), .val (.ref b111), .val (.ref b127), .val (.ref b149), .val (.int v5), .val (.int v6), .unset, .unset, .unset, .unset, .unset, .unset, .unset, .unset, .unset, .unset, .unset, .unset, .unset] [(.ref b178), (.ref b178)])) _
    refine XS.bipush X178.here hx rfl (hb hby at_119) ?_
    show Steps p.tables e below (T178.setTop (mkF m 121 #[.val (.long q0), .second, .val (.long q1), .second, .val (.long q2), .second, .val (.long q3), .second, .val (.int p4), .val (.ref b101), .val (.ref b111), .val (.ref b127), .val (.ref b149), .val (.int v5), .val (.int v6), .unset, .unset, .unset, .unset, .unset, .unset, .unset, .unset, .unset, .unset, .unset, .unset, .unset] [(.int (16 : Int32)), (.ref b178), (.ref b178)])) _
    refine st202.trans ?_
    show Steps p.tables e below (T202.setTop (mkF m 124 #[.val (.long q0), .second, .val (.long q1), .second, .val (.long q2), .second, .val (.long q3), .second, .val (.int p4), .val (.ref b101), .val (.ref b111), .val (.ref b127), .val (.ref b149), .val (.int v5), .val (.int v6), .unset, .unset, .unset, .unset, .unset, .unset, .unset, .unset, .unset, .unset, .unset, .unset, .unset] [(.ref b178)])) _
    refine XS.astore X202.here hx rfl (hb hby at_124) rfl rfl (l' := #[.val (.long q0), .second, .val (.long q1), .second, .val (.long q2), .second, .val (.long q3), .second, .val (.int p4), .val (.ref b101), .val (.ref b111), .val (.ref b127), .val (.ref b149), .val (.int v5), .val (.int v6), .val (.ref b178), .unset, .unset, .unset, .unset, .unset, .unset, .unset, .unset, .unset, .unset, .unset, .unset]) rfl ?_
    show Steps p.tables e below (T202.setTop (mkF m 126 #[.val (.long q0), .second, .val (.long q1), .second, .val (.long q2), .second, .val (.long q3), .second, .val (.int p4), .val (.ref b101), .val (.ref b111), .val (.ref b127), .val (.ref b149), .val (.int v5), .val (.int v6), .val (.ref b178), .unset, .unset, .unset, .unset, .unset, .unset, .unset, .unset, .unset, .unset, .unset, .unset] [])) _
    refine XS.aload X202.here hx rfl (hb hby at_126) rfl rfl ?_
    refine XS.aload X202.here hx rfl (hb hby at_128) rfl rfl ?_
    show Steps p.tables e below (T202.setTop (mkF m 130 #[.val (.long q0), .second, .val (.long q1), .second, .val (.long q2), .second, .val (.long q3), .second, .val (.int p4), .val (.ref b101), .val (.ref b111), .val (.ref b127), .val (.ref b149), .val (.int v5), .val (.int v6), .val (.ref b178), .unset, .unset, .unset, .unset, .unset, .unset, .unset, .unset, .unset, .unset, .unset, .unset] [(.ref b101), (.ref b178)])) _
    refine st218.trans ?_
    show Steps p.tables e below (T218.setTop (mkF m 133 #[.val (.long q0), .second, .val (.long q1), .second, .val (.long q2), .second, .val (.long q3), .second, .val (.int p4), .val (.ref b101), .val (.ref b111), .val (.ref b127), .val (.ref b149), .val (.int v5), .val (.int v6), .val (.ref b178), .unset, .unset, .unset, .unset, .unset, .unset, .unset, .unset, .unset, .unset, .unset, .unset] [(.int (0 : Int32))])) _
    refine XS.istore X218.here hx rfl (hb hby at_133) rfl (l' := #[.val (.long q0), .second, .val (.long q1), .second, .val (.long q2), .second, .val (.long q3), .second, .val (.int p4), .val (.ref b101), .val (.ref b111), .val (.ref b127), .val (.ref b149), .val (.int v5), .val (.int v6), .val (.ref b178), .val (.int (0 : Int32)), .unset, .unset, .unset, .unset, .unset, .unset, .unset, .unset, .unset, .unset, .unset]) rfl ?_
    show Steps p.tables e below (T218.setTop (mkF m 135 #[.val (.long q0), .second, .val (.long q1), .second, .val (.long q2), .second, .val (.long q3), .second, .val (.int p4), .val (.ref b101), .val (.ref b111), .val (.ref b127), .val (.ref b149), .val (.int v5), .val (.int v6), .val (.ref b178), .val (.int (0 : Int32)), .unset, .unset, .unset, .unset, .unset, .unset, .unset, .unset, .unset, .unset, .unset] [])) _
    refine XS.aload X218.here hx rfl (hb hby at_135) rfl rfl ?_
    refine XS.aload X218.here hx rfl (hb hby at_137) rfl rfl ?_
    show Steps p.tables e below (T218.setTop (mkF m 139 #[.val (.long q0), .second, .val (.long q1), .second, .val (.long q2), .second, .val (.long q3), .second, .val (.int p4), .val (.ref b101), .val (.ref b111), .val (.ref b127), .val (.ref b149), .val (.int v5), .val (.int v6), .val (.ref b178), .val (.int (0 : Int32)), .unset, .unset, .unset, .unset, .unset, .unset, .unset, .unset, .unset, .unset, .unset] [(.ref b111), (.ref b178)])) _
    refine st235.trans ?_
    show Steps p.tables e below (T235.setTop (mkF m 142 #[.val (.long q0), .second, .val (.long q1), .second, .val (.long q2), .second, .val (.long q3), .second, .val (.int p4), .val (.ref b101), .val (.ref b111), .val (.ref b127), .val (.ref b149), .val (.int v5), .val (.int v6), .val (.ref b178), .val (.int (0 : Int32)), .unset, .unset, .unset, .unset, .unset, .unset, .unset, .unset, .unset, .unset, .unset] [(.int (1 : Int32))])) _
    refine XS.istore X235.here hx rfl (hb hby at_142) rfl (l' := #[.val (.long q0), .second, .val (.long q1), .second, .val (.long q2), .second, .val (.long q3), .second, .val (.int p4), .val (.ref b101), .val (.ref b111), .val (.ref b127), .val (.ref b149), .val (.int v5), .val (.int v6), .val (.ref b178), .val (.int (0 : Int32)), .val (.int (1 : Int32)), .unset, .unset, .unset, .unset, .unset, .unset, .unset, .unset, .unset, .unset]) rfl ?_
    show Steps p.tables e below (T235.setTop (mkF m 144 #[.val (.long q0), .second, .val (.long q1), .second, .val (.long q2), .second, .val (.long q3), .second, .val (.int p4), .val (.ref b101), .val (.ref b111), .val (.ref b127), .val (.ref b149), .val (.int v5), .val (.int v6), .val (.ref b178), .val (.int (0 : Int32)), .val (.int (1 : Int32)), .unset, .unset, .unset, .unset, .unset, .unset, .unset, .unset, .unset, .unset] [])) _
    refine XS.aload X235.here hx rfl (hb hby at_144) rfl rfl ?_
    refine XS.aload X235.here hx rfl (hb hby at_146) rfl rfl ?_
    show Steps p.tables e below (T235.setTop (mkF m 148 #[.val (.long q0), .second, .val (.long q1), .second, .val (.long q2), .second, .val (.long q3), .second, .val (.int p4), .val (.ref b101), .val (.ref b111), .val (.ref b127), .val (.ref b149), .val (.int v5), .val (.int v6), .val (.ref b178), .val (.int (0 : Int32)), .val (.int (1 : Int32)), .unset, .unset, .unset, .unset, .unset, .unset, .unset, .unset, .unset, .unset] [(.ref b127), (.ref b178)])) _
    refine st252.trans ?_
    show Steps p.tables e below (T252.setTop (mkF m 151 #[.val (.long q0), .second, .val (.long q1), .second, .val (.long q2), .second, .val (.long q3), .second, .val (.int p4), .val (.ref b101), .val (.ref b111), .val (.ref b127), .val (.ref b149), .val (.int v5), .val (.int v6), .val (.ref b178), .val (.int (0 : Int32)), .val (.int (1 : Int32)), .unset, .unset, .unset, .unset, .unset, .unset, .unset, .unset, .unset, .unset] [(.int (2 : Int32))])) _
    refine XS.istore X252.here hx rfl (hb hby at_151) rfl (l' := #[.val (.long q0), .second, .val (.long q1), .second, .val (.long q2), .second, .val (.long q3), .second, .val (.int p4), .val (.ref b101), .val (.ref b111), .val (.ref b127), .val (.ref b149), .val (.int v5), .val (.int v6), .val (.ref b178), .val (.int (0 : Int32)), .val (.int (1 : Int32)), .val (.int (2 : Int32)), .unset, .unset, .unset, .unset, .unset, .unset, .unset, .unset, .unset]) rfl ?_
    show Steps p.tables e below (T252.setTop (mkF m 153 #[.val (.long q0), .second, .val (.long q1), .second, .val (.long q2), .second, .val (.long q3), .second, .val (.int p4), .val (.ref b101), .val (.ref b111), .val (.ref b127), .val (.ref b149), .val (.int v5), .val (.int v6), .val (.ref b178), .val (.int (0 : Int32)), .val (.int (1 : Int32)), .val (.int (2 : Int32)), .unset, .unset, .unset, .unset, .unset, .unset, .unset, .unset, .unset] [])) _
    refine XS.iload X252.here hx rfl (hb hby at_153) rfl ?_
    refine XS.ifNo X252.here hx rfl (hb hby at_155) rfl ((if0 _ _).trans (teq (by decide : (0 : Int32) = (0 : Int32))).2) ?_
    show Steps p.tables e below (T252.setTop (mkF m 158 #[.val (.long q0), .second, .val (.long q1), .second, .val (.long q2), .second, .val (.long q3), .second, .val (.int p4), .val (.ref b101), .val (.ref b111), .val (.ref b127), .val (.ref b149), .val (.int v5), .val (.int v6), .val (.ref b178), .val (.int (0 : Int32)), .val (.int (1 : Int32)), .val (.int (2 : Int32)), .unset, .unset, .unset, .unset, .unset, .unset, .unset, .unset, .unset] [])) _
    refine XS.iload X252.here hx rfl (hb hby at_158) rfl ?_
    refine XS.iconst X252.here hx rfl (hb hby at_160) ?_
    refine XS.icmpNo X252.here hx rfl (hb hby at_161) rfl (teq (by decide : (1 : Int32) = (1 : Int32))).2 ?_
    show Steps p.tables e below (T252.setTop (mkF m 164 #[.val (.long q0), .second, .val (.long q1), .second, .val (.long q2), .second, .val (.long q3), .second, .val (.int p4), .val (.ref b101), .val (.ref b111), .val (.ref b127), .val (.ref b149), .val (.int v5), .val (.int v6), .val (.ref b178), .val (.int (0 : Int32)), .val (.int (1 : Int32)), .val (.int (2 : Int32)), .unset, .unset, .unset, .unset, .unset, .unset, .unset, .unset, .unset] [])) _
    refine XS.iload X252.here hx rfl (hb hby at_164) rfl ?_
    refine XS.iconst X252.here hx rfl (hb hby at_166) ?_
    refine XS.icmpYes X252.here hx rfl (pc0 := 167) (pc' := 172) rfl (hb hby at_167) rfl (teq (by decide : (2 : Int32) = (2 : Int32))).1 (by decide) (by decide) ?_
    exact kt
  refine own_go hgo269 ?_
  by_cases hs172_28 : v6 = (0 : Int32)
  · obtain ⟨cq270, kq270, q270a, q270b, q270c⟩ := isOf hZ (rfl : T252.heap = T252.heap) F252_0
    obtain ⟨_, _, ⟨T270, L270, k270, n270⟩, -, X270, ⟨Lc270, hQ270, l270, y270, z270⟩, st270⟩ := X252.virtualBack hx (y := (⟨"com/example/upper_falls/upperfalls/HeldKeys", "hold", "(Lcom/example/upper_falls/upperfalls/KeyHash;)I"⟩ : MethodName)) (z := (⟨"com/example/upper_falls/upperfalls/HeldKeys", "hold", "(Lcom/example/upper_falls/upperfalls/KeyHash;)I"⟩ : MethodName)) hown (mvT hZ (own_wd hw 71 rfl)) (mvT hZ (own_wd hw 72 rfl)) (notFace_of_selects (args := #[]) (mvT hZ (own_wd hw 74 rfl))) (mvT hZ (own_wd hw 74 rfl)) (mvT hZ (own_wd hw 73 rfl)) (by decide) (backOf (W := 0) (rmhy l Z a0 hw [] b178 b101 b202_0 b202_1 b202_2 b202_3 b202_4 b202_5 v23 v24 v25 v27 v11 v26 v1 (0 : Int64) (3 : Int32) (0 : Int32) 3 (0 : Int32) (0 : Int32) (T252.heap) n0 Z267 F252_0 F252_1 F252_2 F252_3 F252_4 F252_5 F252_6 F252_7 F252_8f F252_9 F252_10n F252_11n F252_12n F252_14n F266 F252_13n F253 F254 F255 ((by rw [hF3]; exact own_V3) : own_V 3 v26) ((own_Mk (t := 0) (by decide) (by decide) rfl rfl G3 (fun _ => P0)) : own_M 3 v23 v24 (0 : Int32) v1 (0 : Int64)) (by decide : 3 ≤ 3) ((by rw [hF3]; exact cg0) : own_fnd v26 (0 : Int32) 8 ((v1.toInt32) &&& (31 : Int32)) = some (0 : Int32)) (by decide : (¬ (0 : Int32) < 0 ∧ (0 : Int32).toNatClampNeg < 16)) (by decide : ¬ ((0 : Int32) = (-1 : Int32))) ne_b178_b202_3 F202_8 F202_12 F202_15 (Ne.symm F202_18) (Ne.symm F202_19) ne_b101_b202_3 g_b202_3) hZ (own_wd hw 75 rfl) (own_wd hw 27 rfl) (by decide) (by decide)) q270a q270c (g := (mkF m 203 #[.val (.long q0), .second, .val (.long q1), .second, .val (.long q2), .second, .val (.long q3), .second, .val (.int p4), .val (.ref b101), .val (.ref b111), .val (.ref b127), .val (.ref b149), .val (.int v5), .val (.int (0 : Int32)), .val (.ref b178), .val (.int (0 : Int32)), .val (.int (1 : Int32)), .val (.int (2 : Int32)), .unset, .unset, .unset, .unset, .unset, .unset, .unset, .unset, .unset] [(.ref b101), (.ref b178)])) rfl (by rw [hml]; rfl) (Steps.refl _) (argsL := [(.ref b101)]) (rest := []) (lenOf pd13 rfl) rfl (by show 2 * 0 + _ ≤ _; exact Nat.le_of_eq rfl) (hb hby at_203) (fun _ _ => ⟨rfl, (rfl : T252.heap = T252.heap), (by decide : 11 + 0 ≤ _), (by decide : 129 + 0 ≤ _)⟩)
    dsimp only [Pt.U, Pt.locs, Pt.cells, Pt.slots] at X270 l270 y270 z270 st270 hQ270
    subst l270 y270 z270
    obtain ⟨rfl, N270q, K270q, F270_0⟩ := hQ270
    have F271 := F253.keep K270q
    have F272 := F254.keep K270q (ninS ne_b101_b202_3 nin0)
    have F273 := F255.keep K270q (ninS ne_b101_b202_3 nin0)
    have F274 := F256.keep K270q
    have F275 := F257.keep K270q (ninS ne_b111_b202_3 nin0)
    have F276 := F258.keep K270q (ninS ne_b111_b202_3 nin0)
    have F277 := F259.keep K270q
    have F278 := F260.keep K270q (ninS ne_b127_b202_3 nin0)
    have F279 := F261.keep K270q (ninS ne_b127_b202_3 nin0)
    have F280 := F262.keep K270q
    have F281 := F263.keep K270q (ninS ne_b149_b202_3 nin0)
    have F282 := F264.keep K270q (ninS ne_b149_b202_3 nin0)
    have F283 := F252_0.keep K270q
    have F284 := F266.keep K270q (ninS (Ne.symm F202_18) nin0)
    have F285 := F252_1.keep K270q (ninS ne_b178_b202_3 nin0)
    have F286 := F252_2.keep K270q (ninS ne_b178_b202_3 nin0)
    have F287 := F252_3.keep K270q (ninS ne_b178_b202_3 nin0)
    have F288 := F252_4.keep K270q (ninS ne_b178_b202_3 nin0)
    have F289 := F252_5.keep K270q (ninS ne_b178_b202_3 nin0)
    have F290 := F252_6.keep K270q (ninS ne_b178_b202_3 nin0)
    have F291 := F252_7.keep K270q (ninS ne_b178_b202_3 nin0)
    have F292 := F252_8f.keep K270q (ninS ne_b178_b202_3 nin0)
    have F293 := F252_9.keep K270q (ninS ne_b178_b202_3 nin0)
    have F294 := F252_10n.keep K270q (ninS F202_8 nin0)
    have F295 := F252_11n.keep K270q (ninS F202_12 nin0)
    have F296 := F252_12n.keep K270q (ninS F202_15 nin0)
    have F297 := F252_13n.keep K270q (ninS (Ne.symm F202_19) nin0)
    have Z298 : n0 ≤ T270.heap.size := Nat.le_trans Z267 K270q.1
    have K299 : Keep h0 T270.heap [] := K268.trans K270q (allS (Or.inr sz_b202_3) all0)
    obtain ⟨v29, hv29⟩ : ∃ z : Nat → Int32, z = (own_up v27 ((0 : Int32).toNatClampNeg) ((v27 (0 : Int32).toNatClampNeg) + (1 : Int32))) := ⟨_, rfl⟩
    have F270_0n : own_AI Z T270.heap b202_3 .int 16 v29 := by rw [hv29]; exact F270_0
    have N270 := Fr.app N252 N270q
    have hgo300 : ∀ t, Steps p.tables e below (T270.setTop (mkF m 207 #[.val (.long q0), .second, .val (.long q1), .second, .val (.long q2), .second, .val (.long q3), .second, .val (.int p4), .val (.ref b101), .val (.ref b111), .val (.ref b127), .val (.ref b149), .val (.int v5), .val (.int (0 : Int32)), .val (.ref b178), .val (.int (0 : Int32)), .val (.int (1 : Int32)), .val (.int (2 : Int32)), .unset, .unset, .unset, .unset, .unset, .unset, .unset, .unset, .unset] [])) t → Steps p.tables e below (T252.setTop (mkF m 172 #[.val (.long q0), .second, .val (.long q1), .second, .val (.long q2), .second, .val (.long q3), .second, .val (.int p4), .val (.ref b101), .val (.ref b111), .val (.ref b127), .val (.ref b149), .val (.int v5), .val (.int v6), .val (.ref b178), .val (.int (0 : Int32)), .val (.int (1 : Int32)), .val (.int (2 : Int32)), .unset, .unset, .unset, .unset, .unset, .unset, .unset, .unset, .unset] [])) t := by
      intro t kt
      show Steps p.tables e below (T252.setTop (mkF m 172 #[.val (.long q0), .second, .val (.long q1), .second, .val (.long q2), .second, .val (.long q3), .second, .val (.int p4), .val (.ref b101), .val (.ref b111), .val (.ref b127), .val (.ref b149), .val (.int v5), .val (.int v6), .val (.ref b178), .val (.int (0 : Int32)), .val (.int (1 : Int32)), .val (.int (2 : Int32)), .unset, .unset, .unset, .unset, .unset, .unset, .unset, .unset, .unset] [])) _
      rw [hs172_28]
      show Steps p.tables e below (T252.setTop (mkF m 172 #[.val (.long q0), .second, .val (.long q1), .second, .val (.long q2), .second, .val (.long q3), .second, .val (.int p4), .val (.ref b101), .val (.ref b111), .val (.ref b127), .val (.ref b149), .val (.int v5), .val (.int (0 : Int32)), .val (.ref b178), .val (.int (0 : Int32)), .val (.int (1 : Int32)), .val (.int (2 : Int32)), .unset, .unset, .unset, .unset, .unset, .unset, .unset, .unset, .unset] [])) _
      refine XS.iload X252.here hx rfl (hb hby at_172) rfl ?_
      refine XS.iconst X252.here hx rfl (hb hby at_174) ?_
      refine XS.icmpNo X252.here hx rfl (hb hby at_175) rfl (tlt (by decide : (0 : Int32) < (3 : Int32))).2.1 ?_
      show Steps p.tables e below (T252.setTop (mkF m 178 #[.val (.long q0), .second, .val (.long q1), .second, .val (.long q2), .second, .val (.long q3), .second, .val (.int p4), .val (.ref b101), .val (.ref b111), .val (.ref b127), .val (.ref b149), .val (.int v5), .val (.int (0 : Int32)), .val (.ref b178), .val (.int (0 : Int32)), .val (.int (1 : Int32)), .val (.int (2 : Int32)), .unset, .unset, .unset, .unset, .unset, .unset, .unset, .unset, .unset] [])) _
      refine XS.aload X252.here hx rfl (hb hby at_178) rfl rfl ?_
      refine XS.iload X252.here hx rfl (hb hby at_180) rfl ?_
      refine XS.ifNo X252.here hx rfl (hb hby at_182) rfl ((if0 _ _).trans (teq (by decide : (0 : Int32) = (0 : Int32))).2) ?_
      show Steps p.tables e below (T252.setTop (mkF m 185 #[.val (.long q0), .second, .val (.long q1), .second, .val (.long q2), .second, .val (.long q3), .second, .val (.int p4), .val (.ref b101), .val (.ref b111), .val (.ref b127), .val (.ref b149), .val (.int v5), .val (.int (0 : Int32)), .val (.ref b178), .val (.int (0 : Int32)), .val (.int (1 : Int32)), .val (.int (2 : Int32)), .unset, .unset, .unset, .unset, .unset, .unset, .unset, .unset, .unset] [(.ref b178)])) _
      refine XS.aload X252.here hx rfl (hb hby at_185) rfl rfl ?_
      refine XS.goto X252.here hx rfl (pc0 := 187) (pc' := 203) rfl (hb hby at_187) (by decide) (by decide) ?_
      show Steps p.tables e below (T252.setTop (mkF m 203 #[.val (.long q0), .second, .val (.long q1), .second, .val (.long q2), .second, .val (.long q3), .second, .val (.int p4), .val (.ref b101), .val (.ref b111), .val (.ref b127), .val (.ref b149), .val (.int v5), .val (.int (0 : Int32)), .val (.ref b178), .val (.int (0 : Int32)), .val (.int (1 : Int32)), .val (.int (2 : Int32)), .unset, .unset, .unset, .unset, .unset, .unset, .unset, .unset, .unset] [(.ref b101), (.ref b178)])) _
      refine st270.trans ?_
      show Steps p.tables e below (T270.setTop (mkF m 206 #[.val (.long q0), .second, .val (.long q1), .second, .val (.long q2), .second, .val (.long q3), .second, .val (.int p4), .val (.ref b101), .val (.ref b111), .val (.ref b127), .val (.ref b149), .val (.int v5), .val (.int (0 : Int32)), .val (.ref b178), .val (.int (0 : Int32)), .val (.int (1 : Int32)), .val (.int (2 : Int32)), .unset, .unset, .unset, .unset, .unset, .unset, .unset, .unset, .unset] [(.int (0 : Int32))])) _
      refine XS.pop X270.here hx rfl (hb hby at_206) rfl rfl ?_
      exact kt
    refine own_go hgo300 ?_
    by_cases hs207_30 : v5 = (0 : Int32)
    · obtain ⟨cq301, kq301, q301a, q301b, q301c⟩ := isOf hZ (rfl : T270.heap = T270.heap) F283
      obtain ⟨_, _, ⟨T301, L301, k301, n301⟩, -, X301, ⟨Lc301, hQ301, l301, y301, z301⟩, st301⟩ := X270.virtualBack hx (y := (⟨"com/example/upper_falls/upperfalls/HeldKeys", "release", "(I)V"⟩ : MethodName)) (z := (⟨"com/example/upper_falls/upperfalls/HeldKeys", "release", "(I)V"⟩ : MethodName)) hown (mvT hZ (own_wd hw 103 rfl)) (mvT hZ (own_wd hw 104 rfl)) (notFace_of_selects (args := #[]) (mvT hZ (own_wd hw 106 rfl))) (mvT hZ (own_wd hw 106 rfl)) (mvT hZ (own_wd hw 105 rfl)) (by decide) (backOf (W := 0) (rmrk l Z a0 hw [] b178 (0 : Int32) b202_0 b202_1 b202_2 b202_3 b202_4 b202_5 v23 v24 v25 v29 v11 v26 (3 : Int32) (0 : Int32) (T270.heap) n0 Z298 F283 F285 F286 F287 F288 F289 F290 F291 F292 F293 F294 F295 F296 F270_0n F284 F297 (by decide : (¬ (0 : Int32) < 0 ∧ (0 : Int32).toNatClampNeg < 16)) ((by rw [hv29, hv27, hv22, hv17, hv10]; decide) : ¬ (((v29 (0 : Int32).toNatClampNeg) - (1 : Int32)) = (0 : Int32))) ne_b178_b202_3 F202_8 F202_12 F202_15 (Ne.symm F202_18) (Ne.symm F202_19) g_b202_3) hZ (own_wd hw 107 rfl) (own_wd hw 27 rfl) (by decide) (by decide)) q301a q301c (g := (mkF m 211 #[.val (.long q0), .second, .val (.long q1), .second, .val (.long q2), .second, .val (.long q3), .second, .val (.int p4), .val (.ref b101), .val (.ref b111), .val (.ref b127), .val (.ref b149), .val (.int (0 : Int32)), .val (.int (0 : Int32)), .val (.ref b178), .val (.int (0 : Int32)), .val (.int (1 : Int32)), .val (.int (2 : Int32)), .unset, .unset, .unset, .unset, .unset, .unset, .unset, .unset, .unset] [(.int (0 : Int32)), (.ref b178)])) rfl (by rw [hml]; rfl) (Steps.refl _) (argsL := [(.int (0 : Int32))]) (rest := []) (lenOf pd14 rfl) rfl (by show 2 * 0 + _ ≤ _; exact Nat.le_of_eq rfl) (hb hby at_211) (fun _ _ => ⟨rfl, (rfl : T270.heap = T270.heap), (by decide : 11 + 0 ≤ _), (by decide : 129 + 0 ≤ _)⟩)
      dsimp only [Pt.U, Pt.locs, Pt.cells, Pt.slots] at X301 l301 y301 z301 st301 hQ301
      subst l301 y301 z301
      obtain ⟨rfl, N301q, K301q, F301_0⟩ := hQ301
      have F302 := F271.keep K301q
      have F303 := F272.keep K301q (ninS ne_b101_b202_3 nin0)
      have F304 := F273.keep K301q (ninS ne_b101_b202_3 nin0)
      have F305 := F274.keep K301q
      have F306 := F275.keep K301q (ninS ne_b111_b202_3 nin0)
      have F307 := F276.keep K301q (ninS ne_b111_b202_3 nin0)
      have F308 := F277.keep K301q
      have F309 := F278.keep K301q (ninS ne_b127_b202_3 nin0)
      have F310 := F279.keep K301q (ninS ne_b127_b202_3 nin0)
      have F311 := F280.keep K301q
      have F312 := F281.keep K301q (ninS ne_b149_b202_3 nin0)
      have F313 := F282.keep K301q (ninS ne_b149_b202_3 nin0)
      have F314 := F283.keep K301q
      have F315 := F284.keep K301q (ninS (Ne.symm F202_18) nin0)
      have F316 := F285.keep K301q (ninS ne_b178_b202_3 nin0)
      have F317 := F286.keep K301q (ninS ne_b178_b202_3 nin0)
      have F318 := F287.keep K301q (ninS ne_b178_b202_3 nin0)
      have F319 := F288.keep K301q (ninS ne_b178_b202_3 nin0)
      have F320 := F289.keep K301q (ninS ne_b178_b202_3 nin0)
      have F321 := F290.keep K301q (ninS ne_b178_b202_3 nin0)
      have F322 := F291.keep K301q (ninS ne_b178_b202_3 nin0)
      have F323 := F292.keep K301q (ninS ne_b178_b202_3 nin0)
      have F324 := F293.keep K301q (ninS ne_b178_b202_3 nin0)
      have F325 := F294.keep K301q (ninS F202_8 nin0)
      have F326 := F295.keep K301q (ninS F202_12 nin0)
      have F327 := F296.keep K301q (ninS F202_15 nin0)
      have F328 := F297.keep K301q (ninS (Ne.symm F202_19) nin0)
      have Z329 : n0 ≤ T301.heap.size := Nat.le_trans Z298 K301q.1
      have K330 : Keep h0 T301.heap [] := K299.trans K301q (allS (Or.inr sz_b202_3) all0)
      obtain ⟨v31, hv31⟩ : ∃ z : Nat → Int32, z = (own_up v29 ((0 : Int32).toNatClampNeg) ((v29 (0 : Int32).toNatClampNeg) - (1 : Int32))) := ⟨_, rfl⟩
      have F301_0n : own_AI Z T301.heap b202_3 .int 16 v31 := by rw [hv31]; exact F301_0
      have N301 := Fr.app N270 N301q
      obtain ⟨cq331, kq331, q331a, q331b, q331c⟩ := isOf hZ (rfl : T301.heap = T301.heap) F314
      obtain ⟨_, _, ⟨T331, L331, k331, n331⟩, -, X331, ⟨Lc331, hQ331, l331, y331, z331⟩, st331⟩ := X301.virtualBack hx (y := (⟨"com/example/upper_falls/upperfalls/HeldKeys", "find", "(Lcom/example/upper_falls/upperfalls/KeyHash;)I"⟩ : MethodName)) (z := (⟨"com/example/upper_falls/upperfalls/HeldKeys", "find", "(Lcom/example/upper_falls/upperfalls/KeyHash;)I"⟩ : MethodName)) hown (mvT hZ (own_wd hw 108 rfl)) (mvT hZ (own_wd hw 77 rfl)) (notFace_of_selects (args := #[]) (mvT hZ (own_wd hw 79 rfl))) (mvT hZ (own_wd hw 79 rfl)) (mvT hZ (own_wd hw 78 rfl)) (by decide) (backOf (W := 0) (rmfd l Z a0 hw [] b178 b101 b202_5 b202_0 b202_1 v26 v23 v24 v1 (0 : Int64) (0 : Int32) 3 (0 : Int32) (T301.heap) n0 Z329 F314 F321 F316 F317 F328 F325 F326 F302 F303 F304 ((by rw [hF3]; exact own_V3) : own_V 3 v26) ((own_Mk (t := 0) (by decide) (by decide) rfl rfl G3 (fun _ => P0)) : own_M 3 v23 v24 (0 : Int32) v1 (0 : Int64)) (by decide : 3 ≤ 3) ((by rw [hF3]; exact cg0) : own_fnd v26 (0 : Int32) 8 ((v1.toInt32) &&& (31 : Int32)) = some (0 : Int32))) hZ (own_wd hw 80 rfl) (own_wd hw 27 rfl) (by decide) (by decide)) q331a q331c (g := (mkF m 232 #[.val (.long q0), .second, .val (.long q1), .second, .val (.long q2), .second, .val (.long q3), .second, .val (.int p4), .val (.ref b101), .val (.ref b111), .val (.ref b127), .val (.ref b149), .val (.int (0 : Int32)), .val (.int (0 : Int32)), .val (.ref b178), .val (.int (0 : Int32)), .val (.int (1 : Int32)), .val (.int (2 : Int32)), .val (.int (0 : Int32)), .unset, .unset, .unset, .unset, .unset, .unset, .unset, .unset] [(.ref b101), (.ref b178)])) rfl (by rw [hml]; rfl) (Steps.refl _) (argsL := [(.ref b101)]) (rest := []) (lenOf pd13 rfl) rfl (by show 2 * 0 + _ ≤ _; exact Nat.le_of_eq rfl) (hb hby at_232) (fun _ _ => ⟨rfl, (rfl : T301.heap = T301.heap), (by decide : 11 + 0 ≤ _), (by decide : 129 + 0 ≤ _)⟩)
      dsimp only [Pt.U, Pt.locs, Pt.cells, Pt.slots] at X331 l331 y331 z331 st331 hQ331
      subst l331 y331 z331
      obtain ⟨rfl, N331q, e331⟩ := hQ331
      have N331 := Fr.app N301 N331q
      obtain ⟨cq332, kq332, q332a, q332b, q332c⟩ := isOf hZ e331 F314
      obtain ⟨_, _, ⟨T332, L332, k332, n332⟩, -, X332, ⟨Lc332, hQ332, l332, y332, z332⟩, st332⟩ := X331.virtualBack hx (y := (⟨"com/example/upper_falls/upperfalls/HeldKeys", "find", "(Lcom/example/upper_falls/upperfalls/KeyHash;)I"⟩ : MethodName)) (z := (⟨"com/example/upper_falls/upperfalls/HeldKeys", "find", "(Lcom/example/upper_falls/upperfalls/KeyHash;)I"⟩ : MethodName)) hown (mvT hZ (own_wd hw 108 rfl)) (mvT hZ (own_wd hw 77 rfl)) (notFace_of_selects (args := #[]) (mvT hZ (own_wd hw 79 rfl))) (mvT hZ (own_wd hw 79 rfl)) (mvT hZ (own_wd hw 78 rfl)) (by decide) (backOf (W := 0) (rmfd l Z a0 hw [] b178 b111 b202_5 b202_0 b202_1 v26 v23 v24 v2 (1 : Int64) (1 : Int32) 3 (1 : Int32) (T301.heap) n0 Z329 F314 F321 F316 F317 F328 F325 F326 F305 F306 F307 ((by rw [hF3]; exact own_V3) : own_V 3 v26) ((own_Mk (t := 1) (by decide) (by decide) rfl rfl G3 (fun _ => P1)) : own_M 3 v23 v24 (1 : Int32) v2 (1 : Int64)) (by decide : 3 ≤ 3) ((by rw [hF3]; exact cg1) : own_fnd v26 (1 : Int32) 8 ((v2.toInt32) &&& (31 : Int32)) = some (1 : Int32))) hZ (own_wd hw 80 rfl) (own_wd hw 27 rfl) (by decide) (by decide)) q332a q332c (g := (mkF m 241 #[.val (.long q0), .second, .val (.long q1), .second, .val (.long q2), .second, .val (.long q3), .second, .val (.int p4), .val (.ref b101), .val (.ref b111), .val (.ref b127), .val (.ref b149), .val (.int (0 : Int32)), .val (.int (0 : Int32)), .val (.ref b178), .val (.int (0 : Int32)), .val (.int (1 : Int32)), .val (.int (2 : Int32)), .val (.int (0 : Int32)), .val (.int (0 : Int32)), .unset, .unset, .unset, .unset, .unset, .unset, .unset] [(.ref b111), (.ref b178)])) rfl (by rw [hml]; rfl) (Steps.refl _) (argsL := [(.ref b111)]) (rest := []) (lenOf pd13 rfl) rfl (by show 2 * 0 + _ ≤ _; exact Nat.le_of_eq rfl) (hb hby at_241) (fun _ _ => ⟨rfl, e331, (by decide : 11 + 0 ≤ _), (by decide : 129 + 0 ≤ _)⟩)
      dsimp only [Pt.U, Pt.locs, Pt.cells, Pt.slots] at X332 l332 y332 z332 st332 hQ332
      subst l332 y332 z332
      obtain ⟨rfl, N332q, e332⟩ := hQ332
      have N332 := Fr.app N331 N332q
      obtain ⟨cq333, kq333, q333a, q333b, q333c⟩ := isOf hZ e332 F314
      obtain ⟨_, _, ⟨T333, L333, k333, n333⟩, -, X333, ⟨Lc333, hQ333, l333, y333, z333⟩, st333⟩ := X332.virtualBack hx (y := (⟨"com/example/upper_falls/upperfalls/HeldKeys", "find", "(Lcom/example/upper_falls/upperfalls/KeyHash;)I"⟩ : MethodName)) (z := (⟨"com/example/upper_falls/upperfalls/HeldKeys", "find", "(Lcom/example/upper_falls/upperfalls/KeyHash;)I"⟩ : MethodName)) hown (mvT hZ (own_wd hw 108 rfl)) (mvT hZ (own_wd hw 77 rfl)) (notFace_of_selects (args := #[]) (mvT hZ (own_wd hw 79 rfl))) (mvT hZ (own_wd hw 79 rfl)) (mvT hZ (own_wd hw 78 rfl)) (by decide) (backOf (W := 0) (rmfd l Z a0 hw [] b178 b127 b202_5 b202_0 b202_1 v26 v23 v24 v3 (2 : Int64) (2 : Int32) 3 (2 : Int32) (T301.heap) n0 Z329 F314 F321 F316 F317 F328 F325 F326 F308 F309 F310 ((by rw [hF3]; exact own_V3) : own_V 3 v26) ((own_Mk (t := 2) (by decide) (by decide) rfl rfl G3 (fun _ => P2)) : own_M 3 v23 v24 (2 : Int32) v3 (2 : Int64)) (by decide : 3 ≤ 3) ((by rw [hF3]; exact cg2) : own_fnd v26 (2 : Int32) 8 ((v3.toInt32) &&& (31 : Int32)) = some (2 : Int32))) hZ (own_wd hw 80 rfl) (own_wd hw 27 rfl) (by decide) (by decide)) q333a q333c (g := (mkF m 250 #[.val (.long q0), .second, .val (.long q1), .second, .val (.long q2), .second, .val (.long q3), .second, .val (.int p4), .val (.ref b101), .val (.ref b111), .val (.ref b127), .val (.ref b149), .val (.int (0 : Int32)), .val (.int (0 : Int32)), .val (.ref b178), .val (.int (0 : Int32)), .val (.int (1 : Int32)), .val (.int (2 : Int32)), .val (.int (0 : Int32)), .val (.int (0 : Int32)), .val (.int (1 : Int32)), .unset, .unset, .unset, .unset, .unset, .unset] [(.ref b127), (.ref b178)])) rfl (by rw [hml]; rfl) (Steps.refl _) (argsL := [(.ref b127)]) (rest := []) (lenOf pd13 rfl) rfl (by show 2 * 0 + _ ≤ _; exact Nat.le_of_eq rfl) (hb hby at_250) (fun _ _ => ⟨rfl, e332, (by decide : 11 + 0 ≤ _), (by decide : 129 + 0 ≤ _)⟩)
      dsimp only [Pt.U, Pt.locs, Pt.cells, Pt.slots] at X333 l333 y333 z333 st333 hQ333
      subst l333 y333 z333
      obtain ⟨rfl, N333q, e333⟩ := hQ333
      have N333 := Fr.app N332 N333q
      obtain ⟨cq334, kq334, q334a, q334b, q334c⟩ := isOf hZ e333 F314
      obtain ⟨_, _, ⟨T334, L334, k334, n334⟩, -, X334, ⟨Lc334, hQ334, l334, y334, z334⟩, st334⟩ := X333.virtualBack hx (y := (⟨"com/example/upper_falls/upperfalls/HeldKeys", "hold", "(Lcom/example/upper_falls/upperfalls/KeyHash;)I"⟩ : MethodName)) (z := (⟨"com/example/upper_falls/upperfalls/HeldKeys", "hold", "(Lcom/example/upper_falls/upperfalls/KeyHash;)I"⟩ : MethodName)) hown (mvT hZ (own_wd hw 71 rfl)) (mvT hZ (own_wd hw 72 rfl)) (notFace_of_selects (args := #[]) (mvT hZ (own_wd hw 74 rfl))) (mvT hZ (own_wd hw 74 rfl)) (mvT hZ (own_wd hw 73 rfl)) (by decide) (backOf (W := 0) (rmhn l Z a0 hw [] b178 b149 b202_0 b202_1 b202_2 b202_3 b202_4 b202_5 v23 v24 v25 v31 v11 v26 v4 (3 : Int64) (3 : Int32) (3 : Int32) 3 (own_E (own_F3 ((v1.toInt32) &&& (31 : Int32)) ((v2.toInt32) &&& (31 : Int32)) ((v3.toInt32) &&& (31 : Int32))) ((v4.toInt32) &&& (31 : Int32))) (T301.heap) n0 Z329 F314 F316 F317 F318 F319 F320 F321 F322 F323 F324 F325 F326 F327 F301_0n F315 F328 F311 F312 F313 ((by rw [hF3]; exact own_V3) : own_V 3 v26) ((own_Mk (t := 3) (by decide) (by decide) rfl rfl G3 (fun q => absurd q (by decide))) : own_M 3 v23 v24 (3 : Int32) v4 (3 : Int64)) (by decide : 3 ≤ 3) ((by rw [hF3]; exact cf3) : own_fnd v26 (3 : Int32) 8 ((v4.toInt32) &&& (31 : Int32)) = some (-1 : Int32)) (by decide : (¬ (3 : Int32) < 0 ∧ (3 : Int32).toNatClampNeg < 16)) ((by rw [hF3]; exact ce3) : own_emp v26 8 ((v4.toInt32) &&& (31 : Int32)) = some (own_E (own_F3 ((v1.toInt32) &&& (31 : Int32)) ((v2.toInt32) &&& (31 : Int32)) ((v3.toInt32) &&& (31 : Int32))) ((v4.toInt32) &&& (31 : Int32)))) (Ne.symm ne_b178_b202_0) (Ne.symm ne_b178_b202_1) (Ne.symm ne_b178_b202_2) (Ne.symm ne_b178_b202_3) (Ne.symm ne_b178_b202_4) (Ne.symm ne_b178_b202_5) ne_b149_b178 g_b178 ne_b178_b202_0 (Ne.symm F202_6) (Ne.symm F202_7) (Ne.symm F202_8) (Ne.symm F202_9) (Ne.symm F202_10) ne_b149_b202_0 g_b202_0 ne_b178_b202_1 (Ne.symm F202_11) (Ne.symm F202_12) (Ne.symm F202_13) (Ne.symm F202_14) ne_b149_b202_1 F202_6 g_b202_1 ne_b178_b202_2 (Ne.symm F202_15) (Ne.symm F202_16) (Ne.symm F202_17) ne_b149_b202_2 F202_7 F202_11 g_b202_2 ne_b178_b202_5 F202_19 F202_20 ne_b149_b202_5 F202_10 F202_14 F202_17 g_b202_5 ne_b178_b202_3 (Ne.symm F202_18) ne_b149_b202_3 F202_8 F202_12 F202_15 (Ne.symm F202_19) g_b202_3) hZ (own_wd hw 75 rfl) (own_wd hw 27 rfl) (by decide) (by decide)) q334a q334c (g := (mkF m 312 #[.val (.long q0), .second, .val (.long q1), .second, .val (.long q2), .second, .val (.long q3), .second, .val (.int p4), .val (.ref b101), .val (.ref b111), .val (.ref b127), .val (.ref b149), .val (.int (0 : Int32)), .val (.int (0 : Int32)), .val (.ref b178), .val (.int (0 : Int32)), .val (.int (1 : Int32)), .val (.int (2 : Int32)), .val (.int (0 : Int32)), .val (.int (0 : Int32)), .val (.int (1 : Int32)), .val (.int (2 : Int32)), .val (.int (0 : Int32)), .val (.int (1 : Int32)), .val (.int (2 : Int32)), .unset, .unset] [(.ref b149), (.ref b178)])) rfl (by rw [hml]; rfl) (Steps.refl _) (argsL := [(.ref b149)]) (rest := []) (lenOf pd13 rfl) rfl (by show 2 * 0 + _ ≤ _; exact Nat.le_of_eq rfl) (hb hby at_312) (fun _ _ => ⟨rfl, e333, (by decide : 11 + 0 ≤ _), (by decide : 129 + 0 ≤ _)⟩)
      dsimp only [Pt.U, Pt.locs, Pt.cells, Pt.slots] at X334 l334 y334 z334 st334 hQ334
      subst l334 y334 z334
      obtain ⟨rfl, N334q, K334q, F334_0, F334_1, F334_2, F334_3, F334_4, F334_5, F334_6, F334_7, F334_8, F334_9, F334_10, F334_11, F334_12, F334_13, F334_14⟩ := hQ334
      have F335 := F302.keep K334q
      have F336 := F303.keep K334q (ninS ne_b101_b178 (ninS ne_b101_b202_0 (ninS ne_b101_b202_1 (ninS ne_b101_b202_2 (ninS ne_b101_b202_5 (ninS ne_b101_b202_3 nin0))))))
      have F337 := F304.keep K334q (ninS ne_b101_b178 (ninS ne_b101_b202_0 (ninS ne_b101_b202_1 (ninS ne_b101_b202_2 (ninS ne_b101_b202_5 (ninS ne_b101_b202_3 nin0))))))
      have F338 := F305.keep K334q
      have F339 := F306.keep K334q (ninS ne_b111_b178 (ninS ne_b111_b202_0 (ninS ne_b111_b202_1 (ninS ne_b111_b202_2 (ninS ne_b111_b202_5 (ninS ne_b111_b202_3 nin0))))))
      have F340 := F307.keep K334q (ninS ne_b111_b178 (ninS ne_b111_b202_0 (ninS ne_b111_b202_1 (ninS ne_b111_b202_2 (ninS ne_b111_b202_5 (ninS ne_b111_b202_3 nin0))))))
      have F341 := F308.keep K334q
      have F342 := F309.keep K334q (ninS ne_b127_b178 (ninS ne_b127_b202_0 (ninS ne_b127_b202_1 (ninS ne_b127_b202_2 (ninS ne_b127_b202_5 (ninS ne_b127_b202_3 nin0))))))
      have F343 := F310.keep K334q (ninS ne_b127_b178 (ninS ne_b127_b202_0 (ninS ne_b127_b202_1 (ninS ne_b127_b202_2 (ninS ne_b127_b202_5 (ninS ne_b127_b202_3 nin0))))))
      have F344 := F311.keep K334q
      have F345 := F312.keep K334q (ninS ne_b149_b178 (ninS ne_b149_b202_0 (ninS ne_b149_b202_1 (ninS ne_b149_b202_2 (ninS ne_b149_b202_5 (ninS ne_b149_b202_3 nin0))))))
      have F346 := F313.keep K334q (ninS ne_b149_b178 (ninS ne_b149_b202_0 (ninS ne_b149_b202_1 (ninS ne_b149_b202_2 (ninS ne_b149_b202_5 (ninS ne_b149_b202_3 nin0))))))
      have F347 := F314.keep K334q
      have F348 := F315.keep K334q (ninS (Ne.symm ne_b178_b202_4) (ninS (Ne.symm F202_9) (ninS (Ne.symm F202_13) (ninS (Ne.symm F202_16) (ninS F202_20 (ninS (Ne.symm F202_18) nin0))))))
      have Z349 : n0 ≤ T334.heap.size := Nat.le_trans Z329 K334q.1
      have K350 : Keep h0 T334.heap [] := K330.trans K334q (allS (Or.inr sz_b178) (allS (Or.inr sz_b202_0) (allS (Or.inr sz_b202_1) (allS (Or.inr sz_b202_2) (allS (Or.inr sz_b202_5) (allS (Or.inr sz_b202_3) all0))))))
      have F334_8f : Fld Z T334.heap b178 "com/example/upper_falls/upperfalls/HeldKeys" "used" "I" (.int (4 : Int32)) := F334_8
      obtain ⟨v32, hv32⟩ : ∃ z : Nat → Int64, z = (own_up v23 ((3 : Int32).toNatClampNeg) v4) := ⟨_, rfl⟩
      have F334_10n : own_AJ Z T334.heap b202_0 .long 16 v32 := by rw [hv32]; exact F334_10
      obtain ⟨v33, hv33⟩ : ∃ z : Nat → Int64, z = (own_up v24 ((3 : Int32).toNatClampNeg) (3 : Int64)) := ⟨_, rfl⟩
      have F334_11n : own_AJ Z T334.heap b202_1 .long 16 v33 := by rw [hv33]; exact F334_11
      obtain ⟨v34, hv34⟩ : ∃ z : Nat → Int64, z = (own_up v25 ((3 : Int32).toNatClampNeg) (0 : Int64)) := ⟨_, rfl⟩
      have F334_12n : own_AJ Z T334.heap b202_2 .long 16 v34 := by rw [hv34]; exact F334_12
      obtain ⟨v35, hv35⟩ : ∃ z : Nat → Int32, z = (own_up v26 ((own_E (own_F3 ((v1.toInt32) &&& (31 : Int32)) ((v2.toInt32) &&& (31 : Int32)) ((v3.toInt32) &&& (31 : Int32))) ((v4.toInt32) &&& (31 : Int32))).toNatClampNeg) (3 : Int32)) := ⟨_, rfl⟩
      have F334_13n : own_AI Z T334.heap b202_5 .int 32 v35 := by rw [hv35]; exact F334_13
      obtain ⟨v36, hv36⟩ : ∃ z : Nat → Int32, z = (own_up v31 ((3 : Int32).toNatClampNeg) ((v31 (3 : Int32).toNatClampNeg) + (1 : Int32))) := ⟨_, rfl⟩
      have F334_14n : own_AI Z T334.heap b202_3 .int 16 v36 := by rw [hv36]; exact F334_14
      have N334 := Fr.app N333 N334q
      have hgo351 : ∀ t, Steps p.tables e below (T334.setTop (mkF m 363 #[.val (.long q0), .second, .val (.long q1), .second, .val (.long q2), .second, .val (.long q3), .second, .val (.int p4), .val (.ref b101), .val (.ref b111), .val (.ref b127), .val (.ref b149), .val (.int (0 : Int32)), .val (.int (0 : Int32)), .val (.ref b178), .val (.int (0 : Int32)), .val (.int (1 : Int32)), .val (.int (2 : Int32)), .val (.int (0 : Int32)), .val (.int (0 : Int32)), .val (.int (1 : Int32)), .val (.int (2 : Int32)), .val (.int (0 : Int32)), .val (.int (1 : Int32)), .val (.int (2 : Int32)), .val (.int (3 : Int32)), .val (.int (3 : Int32))] [(.int (1 : Int32))])) t → Steps p.tables e below (T270.setTop (mkF m 207 #[.val (.long q0), .second, .val (.long q1), .second, .val (.long q2), .second, .val (.long q3), .second, .val (.int p4), .val (.ref b101), .val (.ref b111), .val (.ref b127), .val (.ref b149), .val (.int v5), .val (.int (0 : Int32)), .val (.ref b178), .val (.int (0 : Int32)), .val (.int (1 : Int32)), .val (.int (2 : Int32)), .unset, .unset, .unset, .unset, .unset, .unset, .unset, .unset, .unset] [])) t := by
        intro t kt
        show Steps p.tables e below (T270.setTop (mkF m 207 #[.val (.long q0), .second, .val (.long q1), .second, .val (.long q2), .second, .val (.long q3), .second, .val (.int p4), .val (.ref b101), .val (.ref b111), .val (.ref b127), .val (.ref b149), .val (.int v5), .val (.int (0 : Int32)), .val (.ref b178), .val (.int (0 : Int32)), .val (.int (1 : Int32)), .val (.int (2 : Int32)), .unset, .unset, .unset, .unset, .unset, .unset, .unset, .unset, .unset] [])) _
        rw [hs207_30]
        show Steps p.tables e below (T270.setTop (mkF m 207 #[.val (.long q0), .second, .val (.long q1), .second, .val (.long q2), .second, .val (.long q3), .second, .val (.int p4), .val (.ref b101), .val (.ref b111), .val (.ref b127), .val (.ref b149), .val (.int (0 : Int32)), .val (.int (0 : Int32)), .val (.ref b178), .val (.int (0 : Int32)), .val (.int (1 : Int32)), .val (.int (2 : Int32)), .unset, .unset, .unset, .unset, .unset, .unset, .unset, .unset, .unset] [])) _
        refine XS.aload X270.here hx rfl (hb hby at_207) rfl rfl ?_
        refine XS.iload X270.here hx rfl (hb hby at_209) rfl ?_
        show Steps p.tables e below (T270.setTop (mkF m 211 #[.val (.long q0), .second, .val (.long q1), .second, .val (.long q2), .second, .val (.long q3), .second, .val (.int p4), .val (.ref b101), .val (.ref b111), .val (.ref b127), .val (.ref b149), .val (.int (0 : Int32)), .val (.int (0 : Int32)), .val (.ref b178), .val (.int (0 : Int32)), .val (.int (1 : Int32)), .val (.int (2 : Int32)), .unset, .unset, .unset, .unset, .unset, .unset, .unset, .unset, .unset] [(.int (0 : Int32)), (.ref b178)])) _
        refine st301.trans ?_
        show Steps p.tables e below (T301.setTop (mkF m 214 #[.val (.long q0), .second, .val (.long q1), .second, .val (.long q2), .second, .val (.long q3), .second, .val (.int p4), .val (.ref b101), .val (.ref b111), .val (.ref b127), .val (.ref b149), .val (.int (0 : Int32)), .val (.int (0 : Int32)), .val (.ref b178), .val (.int (0 : Int32)), .val (.int (1 : Int32)), .val (.int (2 : Int32)), .unset, .unset, .unset, .unset, .unset, .unset, .unset, .unset, .unset] [])) _
        refine XS.iload X301.here hx rfl (hb hby at_214) rfl ?_
        refine XS.iload X301.here hx rfl (hb hby at_216) rfl ?_
        refine XS.icmpYes X301.here hx rfl (pc0 := 218) (pc' := 225) rfl (hb hby at_218) rfl (teq (by decide : (0 : Int32) = (0 : Int32))).1 (by decide) (by decide) ?_
        show Steps p.tables e below (T301.setTop (mkF m 225 #[.val (.long q0), .second, .val (.long q1), .second, .val (.long q2), .second, .val (.long q3), .second, .val (.int p4), .val (.ref b101), .val (.ref b111), .val (.ref b127), .val (.ref b149), .val (.int (0 : Int32)), .val (.int (0 : Int32)), .val (.ref b178), .val (.int (0 : Int32)), .val (.int (1 : Int32)), .val (.int (2 : Int32)), .unset, .unset, .unset, .unset, .unset, .unset, .unset, .unset, .unset] [])) _
        refine XS.iconst X301.here hx rfl (hb hby at_225) ?_
        refine XS.istore X301.here hx rfl (hb hby at_226) rfl (l' := #[.val (.long q0), .second, .val (.long q1), .second, .val (.long q2), .second, .val (.long q3), .second, .val (.int p4), .val (.ref b101), .val (.ref b111), .val (.ref b127), .val (.ref b149), .val (.int (0 : Int32)), .val (.int (0 : Int32)), .val (.ref b178), .val (.int (0 : Int32)), .val (.int (1 : Int32)), .val (.int (2 : Int32)), .val (.int (0 : Int32)), .unset, .unset, .unset, .unset, .unset, .unset, .unset, .unset]) rfl ?_
        show Steps p.tables e below (T301.setTop (mkF m 228 #[.val (.long q0), .second, .val (.long q1), .second, .val (.long q2), .second, .val (.long q3), .second, .val (.int p4), .val (.ref b101), .val (.ref b111), .val (.ref b127), .val (.ref b149), .val (.int (0 : Int32)), .val (.int (0 : Int32)), .val (.ref b178), .val (.int (0 : Int32)), .val (.int (1 : Int32)), .val (.int (2 : Int32)), .val (.int (0 : Int32)), .unset, .unset, .unset, .unset, .unset, .unset, .unset, .unset] [])) _
        refine XS.aload X301.here hx rfl (hb hby at_228) rfl rfl ?_
        refine XS.aload X301.here hx rfl (hb hby at_230) rfl rfl ?_
        show Steps p.tables e below (T301.setTop (mkF m 232 #[.val (.long q0), .second, .val (.long q1), .second, .val (.long q2), .second, .val (.long q3), .second, .val (.int p4), .val (.ref b101), .val (.ref b111), .val (.ref b127), .val (.ref b149), .val (.int (0 : Int32)), .val (.int (0 : Int32)), .val (.ref b178), .val (.int (0 : Int32)), .val (.int (1 : Int32)), .val (.int (2 : Int32)), .val (.int (0 : Int32)), .unset, .unset, .unset, .unset, .unset, .unset, .unset, .unset] [(.ref b101), (.ref b178)])) _
        refine st331.trans ?_
        show Steps p.tables e below (T331.setTop (mkF m 235 #[.val (.long q0), .second, .val (.long q1), .second, .val (.long q2), .second, .val (.long q3), .second, .val (.int p4), .val (.ref b101), .val (.ref b111), .val (.ref b127), .val (.ref b149), .val (.int (0 : Int32)), .val (.int (0 : Int32)), .val (.ref b178), .val (.int (0 : Int32)), .val (.int (1 : Int32)), .val (.int (2 : Int32)), .val (.int (0 : Int32)), .unset, .unset, .unset, .unset, .unset, .unset, .unset, .unset] [(.int (0 : Int32))])) _
        refine XS.istore X331.here hx rfl (hb hby at_235) rfl (l' := #[.val (.long q0), .second, .val (.long q1), .second, .val (.long q2), .second, .val (.long q3), .second, .val (.int p4), .val (.ref b101), .val (.ref b111), .val (.ref b127), .val (.ref b149), .val (.int (0 : Int32)), .val (.int (0 : Int32)), .val (.ref b178), .val (.int (0 : Int32)), .val (.int (1 : Int32)), .val (.int (2 : Int32)), .val (.int (0 : Int32)), .val (.int (0 : Int32)), .unset, .unset, .unset, .unset, .unset, .unset, .unset]) rfl ?_
        show Steps p.tables e below (T331.setTop (mkF m 237 #[.val (.long q0), .second, .val (.long q1), .second, .val (.long q2), .second, .val (.long q3), .second, .val (.int p4), .val (.ref b101), .val (.ref b111), .val (.ref b127), .val (.ref b149), .val (.int (0 : Int32)), .val (.int (0 : Int32)), .val (.ref b178), .val (.int (0 : Int32)), .val (.int (1 : Int32)), .val (.int (2 : Int32)), .val (.int (0 : Int32)), .val (.int (0 : Int32)), .unset, .unset, .unset, .unset, .unset, .unset, .unset] [])) _
        refine XS.aload X331.here hx rfl (hb hby at_237) rfl rfl ?_
        refine XS.aload X331.here hx rfl (hb hby at_239) rfl rfl ?_
        show Steps p.tables e below (T331.setTop (mkF m 241 #[.val (.long q0), .second, .val (.long q1), .second, .val (.long q2), .second, .val (.long q3), .second, .val (.int p4), .val (.ref b101), .val (.ref b111), .val (.ref b127), .val (.ref b149), .val (.int (0 : Int32)), .val (.int (0 : Int32)), .val (.ref b178), .val (.int (0 : Int32)), .val (.int (1 : Int32)), .val (.int (2 : Int32)), .val (.int (0 : Int32)), .val (.int (0 : Int32)), .unset, .unset, .unset, .unset, .unset, .unset, .unset] [(.ref b111), (.ref b178)])) _
        refine st332.trans ?_
        show Steps p.tables e below (T332.setTop (mkF m 244 #[.val (.long q0), .second, .val (.long q1), .second, .val (.long q2), .second, .val (.long q3), .second, .val (.int p4), .val (.ref b101), .val (.ref b111), .val (.ref b127), .val (.ref b149), .val (.int (0 : Int32)), .val (.int (0 : Int32)), .val (.ref b178), .val (.int (0 : Int32)), .val (.int (1 : Int32)), .val (.int (2 : Int32)), .val (.int (0 : Int32)), .val (.int (0 : Int32)), .unset, .unset, .unset, .unset, .unset, .unset, .unset] [(.int (1 : Int32))])) _
        refine XS.istore X332.here hx rfl (hb hby at_244) rfl (l' := #[.val (.long q0), .second, .val (.long q1), .second, .val (.long q2), .second, .val (.long q3), .second, .val (.int p4), .val (.ref b101), .val (.ref b111), .val (.ref b127), .val (.ref b149), .val (.int (0 : Int32)), .val (.int (0 : Int32)), .val (.ref b178), .val (.int (0 : Int32)), .val (.int (1 : Int32)), .val (.int (2 : Int32)), .val (.int (0 : Int32)), .val (.int (0 : Int32)), .val (.int (1 : Int32)), .unset, .unset, .unset, .unset, .unset, .unset]) rfl ?_
        show Steps p.tables e below (T332.setTop (mkF m 246 #[.val (.long q0), .second, .val (.long q1), .second, .val (.long q2), .second, .val (.long q3), .second, .val (.int p4), .val (.ref b101), .val (.ref b111), .val (.ref b127), .val (.ref b149), .val (.int (0 : Int32)), .val (.int (0 : Int32)), .val (.ref b178), .val (.int (0 : Int32)), .val (.int (1 : Int32)), .val (.int (2 : Int32)), .val (.int (0 : Int32)), .val (.int (0 : Int32)), .val (.int (1 : Int32)), .unset, .unset, .unset, .unset, .unset, .unset] [])) _
        refine XS.aload X332.here hx rfl (hb hby at_246) rfl rfl ?_
        refine XS.aload X332.here hx rfl (hb hby at_248) rfl rfl ?_
        show Steps p.tables e below (T332.setTop (mkF m 250 #[.val (.long q0), .second, .val (.long q1), .second, .val (.long q2), .second, .val (.long q3), .second, .val (.int p4), .val (.ref b101), .val (.ref b111), .val (.ref b127), .val (.ref b149), .val (.int (0 : Int32)), .val (.int (0 : Int32)), .val (.ref b178), .val (.int (0 : Int32)), .val (.int (1 : Int32)), .val (.int (2 : Int32)), .val (.int (0 : Int32)), .val (.int (0 : Int32)), .val (.int (1 : Int32)), .unset, .unset, .unset, .unset, .unset, .unset] [(.ref b127), (.ref b178)])) _
        refine st333.trans ?_
        show Steps p.tables e below (T333.setTop (mkF m 253 #[.val (.long q0), .second, .val (.long q1), .second, .val (.long q2), .second, .val (.long q3), .second, .val (.int p4), .val (.ref b101), .val (.ref b111), .val (.ref b127), .val (.ref b149), .val (.int (0 : Int32)), .val (.int (0 : Int32)), .val (.ref b178), .val (.int (0 : Int32)), .val (.int (1 : Int32)), .val (.int (2 : Int32)), .val (.int (0 : Int32)), .val (.int (0 : Int32)), .val (.int (1 : Int32)), .unset, .unset, .unset, .unset, .unset, .unset] [(.int (2 : Int32))])) _
        refine XS.istore X333.here hx rfl (hb hby at_253) rfl (l' := #[.val (.long q0), .second, .val (.long q1), .second, .val (.long q2), .second, .val (.long q3), .second, .val (.int p4), .val (.ref b101), .val (.ref b111), .val (.ref b127), .val (.ref b149), .val (.int (0 : Int32)), .val (.int (0 : Int32)), .val (.ref b178), .val (.int (0 : Int32)), .val (.int (1 : Int32)), .val (.int (2 : Int32)), .val (.int (0 : Int32)), .val (.int (0 : Int32)), .val (.int (1 : Int32)), .val (.int (2 : Int32)), .unset, .unset, .unset, .unset, .unset]) rfl ?_
        show Steps p.tables e below (T333.setTop (mkF m 255 #[.val (.long q0), .second, .val (.long q1), .second, .val (.long q2), .second, .val (.long q3), .second, .val (.int p4), .val (.ref b101), .val (.ref b111), .val (.ref b127), .val (.ref b149), .val (.int (0 : Int32)), .val (.int (0 : Int32)), .val (.ref b178), .val (.int (0 : Int32)), .val (.int (1 : Int32)), .val (.int (2 : Int32)), .val (.int (0 : Int32)), .val (.int (0 : Int32)), .val (.int (1 : Int32)), .val (.int (2 : Int32)), .unset, .unset, .unset, .unset, .unset] [])) _
        refine XS.iload X333.here hx rfl (hb hby at_255) rfl ?_
        refine XS.ifYes X333.here hx rfl (pc0 := 257) (pc' := 269) rfl (hb hby at_257) rfl ((if0 _ _).trans (teq (by decide : (0 : Int32) = (0 : Int32))).1) (by decide) (by decide) ?_
        show Steps p.tables e below (T333.setTop (mkF m 269 #[.val (.long q0), .second, .val (.long q1), .second, .val (.long q2), .second, .val (.long q3), .second, .val (.int p4), .val (.ref b101), .val (.ref b111), .val (.ref b127), .val (.ref b149), .val (.int (0 : Int32)), .val (.int (0 : Int32)), .val (.ref b178), .val (.int (0 : Int32)), .val (.int (1 : Int32)), .val (.int (2 : Int32)), .val (.int (0 : Int32)), .val (.int (0 : Int32)), .val (.int (1 : Int32)), .val (.int (2 : Int32)), .unset, .unset, .unset, .unset, .unset] [])) _
        refine XS.iconst X333.here hx rfl (hb hby at_269) ?_
        refine XS.istore X333.here hx rfl (hb hby at_270) rfl (l' := #[.val (.long q0), .second, .val (.long q1), .second, .val (.long q2), .second, .val (.long q3), .second, .val (.int p4), .val (.ref b101), .val (.ref b111), .val (.ref b127), .val (.ref b149), .val (.int (0 : Int32)), .val (.int (0 : Int32)), .val (.ref b178), .val (.int (0 : Int32)), .val (.int (1 : Int32)), .val (.int (2 : Int32)), .val (.int (0 : Int32)), .val (.int (0 : Int32)), .val (.int (1 : Int32)), .val (.int (2 : Int32)), .val (.int (0 : Int32)), .unset, .unset, .unset, .unset]) rfl ?_
        show Steps p.tables e below (T333.setTop (mkF m 272 #[.val (.long q0), .second, .val (.long q1), .second, .val (.long q2), .second, .val (.long q3), .second, .val (.int p4), .val (.ref b101), .val (.ref b111), .val (.ref b127), .val (.ref b149), .val (.int (0 : Int32)), .val (.int (0 : Int32)), .val (.ref b178), .val (.int (0 : Int32)), .val (.int (1 : Int32)), .val (.int (2 : Int32)), .val (.int (0 : Int32)), .val (.int (0 : Int32)), .val (.int (1 : Int32)), .val (.int (2 : Int32)), .val (.int (0 : Int32)), .unset, .unset, .unset, .unset] [])) _
        refine XS.iload X333.here hx rfl (hb hby at_272) rfl ?_
        refine XS.ifYes X333.here hx rfl (pc0 := 274) (pc' := 287) rfl (hb hby at_274) rfl ((if0 _ _).trans (teq (by decide : (0 : Int32) = (0 : Int32))).1) (by decide) (by decide) ?_
        show Steps p.tables e below (T333.setTop (mkF m 287 #[.val (.long q0), .second, .val (.long q1), .second, .val (.long q2), .second, .val (.long q3), .second, .val (.int p4), .val (.ref b101), .val (.ref b111), .val (.ref b127), .val (.ref b149), .val (.int (0 : Int32)), .val (.int (0 : Int32)), .val (.ref b178), .val (.int (0 : Int32)), .val (.int (1 : Int32)), .val (.int (2 : Int32)), .val (.int (0 : Int32)), .val (.int (0 : Int32)), .val (.int (1 : Int32)), .val (.int (2 : Int32)), .val (.int (0 : Int32)), .unset, .unset, .unset, .unset] [])) _
        refine XS.iconst X333.here hx rfl (hb hby at_287) ?_
        refine XS.istore X333.here hx rfl (hb hby at_288) rfl (l' := #[.val (.long q0), .second, .val (.long q1), .second, .val (.long q2), .second, .val (.long q3), .second, .val (.int p4), .val (.ref b101), .val (.ref b111), .val (.ref b127), .val (.ref b149), .val (.int (0 : Int32)), .val (.int (0 : Int32)), .val (.ref b178), .val (.int (0 : Int32)), .val (.int (1 : Int32)), .val (.int (2 : Int32)), .val (.int (0 : Int32)), .val (.int (0 : Int32)), .val (.int (1 : Int32)), .val (.int (2 : Int32)), .val (.int (0 : Int32)), .val (.int (1 : Int32)), .unset, .unset, .unset]) rfl ?_
        show Steps p.tables e below (T333.setTop (mkF m 290 #[.val (.long q0), .second, .val (.long q1), .second, .val (.long q2), .second, .val (.long q3), .second, .val (.int p4), .val (.ref b101), .val (.ref b111), .val (.ref b127), .val (.ref b149), .val (.int (0 : Int32)), .val (.int (0 : Int32)), .val (.ref b178), .val (.int (0 : Int32)), .val (.int (1 : Int32)), .val (.int (2 : Int32)), .val (.int (0 : Int32)), .val (.int (0 : Int32)), .val (.int (1 : Int32)), .val (.int (2 : Int32)), .val (.int (0 : Int32)), .val (.int (1 : Int32)), .unset, .unset, .unset] [])) _
        refine XS.iload X333.here hx rfl (hb hby at_290) rfl ?_
        refine XS.ifYes X333.here hx rfl (pc0 := 292) (pc' := 305) rfl (hb hby at_292) rfl ((if0 _ _).trans (teq (by decide : (0 : Int32) = (0 : Int32))).1) (by decide) (by decide) ?_
        show Steps p.tables e below (T333.setTop (mkF m 305 #[.val (.long q0), .second, .val (.long q1), .second, .val (.long q2), .second, .val (.long q3), .second, .val (.int p4), .val (.ref b101), .val (.ref b111), .val (.ref b127), .val (.ref b149), .val (.int (0 : Int32)), .val (.int (0 : Int32)), .val (.ref b178), .val (.int (0 : Int32)), .val (.int (1 : Int32)), .val (.int (2 : Int32)), .val (.int (0 : Int32)), .val (.int (0 : Int32)), .val (.int (1 : Int32)), .val (.int (2 : Int32)), .val (.int (0 : Int32)), .val (.int (1 : Int32)), .unset, .unset, .unset] [])) _
        refine XS.iconst X333.here hx rfl (hb hby at_305) ?_
        refine XS.istore X333.here hx rfl (hb hby at_306) rfl (l' := #[.val (.long q0), .second, .val (.long q1), .second, .val (.long q2), .second, .val (.long q3), .second, .val (.int p4), .val (.ref b101), .val (.ref b111), .val (.ref b127), .val (.ref b149), .val (.int (0 : Int32)), .val (.int (0 : Int32)), .val (.ref b178), .val (.int (0 : Int32)), .val (.int (1 : Int32)), .val (.int (2 : Int32)), .val (.int (0 : Int32)), .val (.int (0 : Int32)), .val (.int (1 : Int32)), .val (.int (2 : Int32)), .val (.int (0 : Int32)), .val (.int (1 : Int32)), .val (.int (2 : Int32)), .unset, .unset]) rfl ?_
        show Steps p.tables e below (T333.setTop (mkF m 308 #[.val (.long q0), .second, .val (.long q1), .second, .val (.long q2), .second, .val (.long q3), .second, .val (.int p4), .val (.ref b101), .val (.ref b111), .val (.ref b127), .val (.ref b149), .val (.int (0 : Int32)), .val (.int (0 : Int32)), .val (.ref b178), .val (.int (0 : Int32)), .val (.int (1 : Int32)), .val (.int (2 : Int32)), .val (.int (0 : Int32)), .val (.int (0 : Int32)), .val (.int (1 : Int32)), .val (.int (2 : Int32)), .val (.int (0 : Int32)), .val (.int (1 : Int32)), .val (.int (2 : Int32)), .unset, .unset] [])) _
        refine XS.aload X333.here hx rfl (hb hby at_308) rfl rfl ?_
        refine XS.aload X333.here hx rfl (hb hby at_310) rfl rfl ?_
        show Steps p.tables e below (T333.setTop (mkF m 312 #[.val (.long q0), .second, .val (.long q1), .second, .val (.long q2), .second, .val (.long q3), .second, .val (.int p4), .val (.ref b101), .val (.ref b111), .val (.ref b127), .val (.ref b149), .val (.int (0 : Int32)), .val (.int (0 : Int32)), .val (.ref b178), .val (.int (0 : Int32)), .val (.int (1 : Int32)), .val (.int (2 : Int32)), .val (.int (0 : Int32)), .val (.int (0 : Int32)), .val (.int (1 : Int32)), .val (.int (2 : Int32)), .val (.int (0 : Int32)), .val (.int (1 : Int32)), .val (.int (2 : Int32)), .unset, .unset] [(.ref b149), (.ref b178)])) _
        refine st334.trans ?_
        show Steps p.tables e below (T334.setTop (mkF m 315 #[.val (.long q0), .second, .val (.long q1), .second, .val (.long q2), .second, .val (.long q3), .second, .val (.int p4), .val (.ref b101), .val (.ref b111), .val (.ref b127), .val (.ref b149), .val (.int (0 : Int32)), .val (.int (0 : Int32)), .val (.ref b178), .val (.int (0 : Int32)), .val (.int (1 : Int32)), .val (.int (2 : Int32)), .val (.int (0 : Int32)), .val (.int (0 : Int32)), .val (.int (1 : Int32)), .val (.int (2 : Int32)), .val (.int (0 : Int32)), .val (.int (1 : Int32)), .val (.int (2 : Int32)), .unset, .unset] [(.int (3 : Int32))])) _
        refine XS.istore X334.here hx rfl (hb hby at_315) rfl (l' := #[.val (.long q0), .second, .val (.long q1), .second, .val (.long q2), .second, .val (.long q3), .second, .val (.int p4), .val (.ref b101), .val (.ref b111), .val (.ref b127), .val (.ref b149), .val (.int (0 : Int32)), .val (.int (0 : Int32)), .val (.ref b178), .val (.int (0 : Int32)), .val (.int (1 : Int32)), .val (.int (2 : Int32)), .val (.int (0 : Int32)), .val (.int (0 : Int32)), .val (.int (1 : Int32)), .val (.int (2 : Int32)), .val (.int (0 : Int32)), .val (.int (1 : Int32)), .val (.int (2 : Int32)), .val (.int (3 : Int32)), .unset]) rfl ?_
        show Steps p.tables e below (T334.setTop (mkF m 317 #[.val (.long q0), .second, .val (.long q1), .second, .val (.long q2), .second, .val (.long q3), .second, .val (.int p4), .val (.ref b101), .val (.ref b111), .val (.ref b127), .val (.ref b149), .val (.int (0 : Int32)), .val (.int (0 : Int32)), .val (.ref b178), .val (.int (0 : Int32)), .val (.int (1 : Int32)), .val (.int (2 : Int32)), .val (.int (0 : Int32)), .val (.int (0 : Int32)), .val (.int (1 : Int32)), .val (.int (2 : Int32)), .val (.int (0 : Int32)), .val (.int (1 : Int32)), .val (.int (2 : Int32)), .val (.int (3 : Int32)), .unset] [])) _
        refine XS.iload X334.here hx rfl (hb hby at_317) rfl ?_
        refine XS.ifYes X334.here hx rfl (pc0 := 319) (pc' := 327) rfl (hb hby at_319) rfl ((if0 _ _).trans (teq (by decide : (0 : Int32) = (0 : Int32))).1) (by decide) (by decide) ?_
        show Steps p.tables e below (T334.setTop (mkF m 327 #[.val (.long q0), .second, .val (.long q1), .second, .val (.long q2), .second, .val (.long q3), .second, .val (.int p4), .val (.ref b101), .val (.ref b111), .val (.ref b127), .val (.ref b149), .val (.int (0 : Int32)), .val (.int (0 : Int32)), .val (.ref b178), .val (.int (0 : Int32)), .val (.int (1 : Int32)), .val (.int (2 : Int32)), .val (.int (0 : Int32)), .val (.int (0 : Int32)), .val (.int (1 : Int32)), .val (.int (2 : Int32)), .val (.int (0 : Int32)), .val (.int (1 : Int32)), .val (.int (2 : Int32)), .val (.int (3 : Int32)), .unset] [])) _
        refine XS.iconst X334.here hx rfl (hb hby at_327) ?_
        refine XS.istore X334.here hx rfl (hb hby at_328) rfl (l' := #[.val (.long q0), .second, .val (.long q1), .second, .val (.long q2), .second, .val (.long q3), .second, .val (.int p4), .val (.ref b101), .val (.ref b111), .val (.ref b127), .val (.ref b149), .val (.int (0 : Int32)), .val (.int (0 : Int32)), .val (.ref b178), .val (.int (0 : Int32)), .val (.int (1 : Int32)), .val (.int (2 : Int32)), .val (.int (0 : Int32)), .val (.int (0 : Int32)), .val (.int (1 : Int32)), .val (.int (2 : Int32)), .val (.int (0 : Int32)), .val (.int (1 : Int32)), .val (.int (2 : Int32)), .val (.int (3 : Int32)), .val (.int (3 : Int32))]) rfl ?_
        show Steps p.tables e below (T334.setTop (mkF m 330 #[.val (.long q0), .second, .val (.long q1), .second, .val (.long q2), .second, .val (.long q3), .second, .val (.int p4), .val (.ref b101), .val (.ref b111), .val (.ref b127), .val (.ref b149), .val (.int (0 : Int32)), .val (.int (0 : Int32)), .val (.ref b178), .val (.int (0 : Int32)), .val (.int (1 : Int32)), .val (.int (2 : Int32)), .val (.int (0 : Int32)), .val (.int (0 : Int32)), .val (.int (1 : Int32)), .val (.int (2 : Int32)), .val (.int (0 : Int32)), .val (.int (1 : Int32)), .val (.int (2 : Int32)), .val (.int (3 : Int32)), .val (.int (3 : Int32))] [])) _
        refine XS.iload X334.here hx rfl (hb hby at_330) rfl ?_
        refine XS.iload X334.here hx rfl (hb hby at_332) rfl ?_
        refine XS.icmpNo X334.here hx rfl (hb hby at_334) rfl (teq (by decide : (0 : Int32) = (0 : Int32))).2 ?_
        show Steps p.tables e below (T334.setTop (mkF m 337 #[.val (.long q0), .second, .val (.long q1), .second, .val (.long q2), .second, .val (.long q3), .second, .val (.int p4), .val (.ref b101), .val (.ref b111), .val (.ref b127), .val (.ref b149), .val (.int (0 : Int32)), .val (.int (0 : Int32)), .val (.ref b178), .val (.int (0 : Int32)), .val (.int (1 : Int32)), .val (.int (2 : Int32)), .val (.int (0 : Int32)), .val (.int (0 : Int32)), .val (.int (1 : Int32)), .val (.int (2 : Int32)), .val (.int (0 : Int32)), .val (.int (1 : Int32)), .val (.int (2 : Int32)), .val (.int (3 : Int32)), .val (.int (3 : Int32))] [])) _
        refine XS.iload X334.here hx rfl (hb hby at_337) rfl ?_
        refine XS.iload X334.here hx rfl (hb hby at_339) rfl ?_
        refine XS.icmpNo X334.here hx rfl (hb hby at_341) rfl (teq (by decide : (1 : Int32) = (1 : Int32))).2 ?_
        show Steps p.tables e below (T334.setTop (mkF m 344 #[.val (.long q0), .second, .val (.long q1), .second, .val (.long q2), .second, .val (.long q3), .second, .val (.int p4), .val (.ref b101), .val (.ref b111), .val (.ref b127), .val (.ref b149), .val (.int (0 : Int32)), .val (.int (0 : Int32)), .val (.ref b178), .val (.int (0 : Int32)), .val (.int (1 : Int32)), .val (.int (2 : Int32)), .val (.int (0 : Int32)), .val (.int (0 : Int32)), .val (.int (1 : Int32)), .val (.int (2 : Int32)), .val (.int (0 : Int32)), .val (.int (1 : Int32)), .val (.int (2 : Int32)), .val (.int (3 : Int32)), .val (.int (3 : Int32))] [])) _
        refine XS.iload X334.here hx rfl (hb hby at_344) rfl ?_
        refine XS.iload X334.here hx rfl (hb hby at_346) rfl ?_
        refine XS.icmpNo X334.here hx rfl (hb hby at_348) rfl (teq (by decide : (2 : Int32) = (2 : Int32))).2 ?_
        show Steps p.tables e below (T334.setTop (mkF m 351 #[.val (.long q0), .second, .val (.long q1), .second, .val (.long q2), .second, .val (.long q3), .second, .val (.int p4), .val (.ref b101), .val (.ref b111), .val (.ref b127), .val (.ref b149), .val (.int (0 : Int32)), .val (.int (0 : Int32)), .val (.ref b178), .val (.int (0 : Int32)), .val (.int (1 : Int32)), .val (.int (2 : Int32)), .val (.int (0 : Int32)), .val (.int (0 : Int32)), .val (.int (1 : Int32)), .val (.int (2 : Int32)), .val (.int (0 : Int32)), .val (.int (1 : Int32)), .val (.int (2 : Int32)), .val (.int (3 : Int32)), .val (.int (3 : Int32))] [])) _
        refine XS.iload X334.here hx rfl (hb hby at_351) rfl ?_
        refine XS.iload X334.here hx rfl (hb hby at_353) rfl ?_
        refine XS.icmpNo X334.here hx rfl (hb hby at_355) rfl (teq (by decide : (3 : Int32) = (3 : Int32))).2 ?_
        show Steps p.tables e below (T334.setTop (mkF m 358 #[.val (.long q0), .second, .val (.long q1), .second, .val (.long q2), .second, .val (.long q3), .second, .val (.int p4), .val (.ref b101), .val (.ref b111), .val (.ref b127), .val (.ref b149), .val (.int (0 : Int32)), .val (.int (0 : Int32)), .val (.ref b178), .val (.int (0 : Int32)), .val (.int (1 : Int32)), .val (.int (2 : Int32)), .val (.int (0 : Int32)), .val (.int (0 : Int32)), .val (.int (1 : Int32)), .val (.int (2 : Int32)), .val (.int (0 : Int32)), .val (.int (1 : Int32)), .val (.int (2 : Int32)), .val (.int (3 : Int32)), .val (.int (3 : Int32))] [])) _
        refine XS.iconst X334.here hx rfl (hb hby at_358) ?_
        refine XS.goto X334.here hx rfl (pc0 := 359) (pc' := 363) rfl (hb hby at_359) (by decide) (by decide) ?_
        exact kt
      refine own_go hgo351 ?_
      exact own_retZ X334 hx Bd.returns Bd.notSynchronized (hb hby at_363) (by decide) (by decide) (Or.inr (rfl : (1 : Int32) = 1)) ⟨by rw [(rfl : (1 : Int32) = 1)], N334⟩
    · obtain ⟨rl0, rl1, rl2⟩ := own_rlt hr3
      have HHr := HH3 _ rl0
      obtain ⟨ca, cb, ⟨ck0, ck1, ck2⟩, ck3, cz3⟩ := own_c1 (own_fin2 (a := t0) (b := t1) (c := t2) (d := t3) hr3)
      rw [← ht0, ← ht1, ← ht2] at ca cb ck0 ck1 ck2 ck3 cz3
      rw [← ht3] at ck3 cz3
      have V4 := own_rmsV cb own_V3 (own_and31 _)
      obtain ⟨cq352, kq352, q352a, q352b, q352c⟩ := isOf hZ (rfl : T270.heap = T270.heap) F283
      obtain ⟨_, _, ⟨T352, L352, k352, n352⟩, -, X352, ⟨Lc352, hQ352, l352, y352, z352⟩, st352⟩ := X270.virtualBack hx (y := (⟨"com/example/upper_falls/upperfalls/HeldKeys", "release", "(I)V"⟩ : MethodName)) (z := (⟨"com/example/upper_falls/upperfalls/HeldKeys", "release", "(I)V"⟩ : MethodName)) hown (mvT hZ (own_wd hw 103 rfl)) (mvT hZ (own_wd hw 104 rfl)) (notFace_of_selects (args := #[]) (mvT hZ (own_wd hw 106 rfl))) (mvT hZ (own_wd hw 106 rfl)) (mvT hZ (own_wd hw 105 rfl)) (by decide) (backOf (W := 0) (rmrl l Z a0 hw [] b178 v5 b202_0 b202_1 b202_2 b202_3 b202_4 b202_5 v23 v24 v25 v29 v11 v26 (3 : Int32) (own_RS ((v1.toInt32) &&& (31 : Int32)) ((v2.toInt32) &&& (31 : Int32)) ((v3.toInt32) &&& (31 : Int32)) v5) 3 (own_HM ((v1.toInt32) &&& (31 : Int32)) ((v2.toInt32) &&& (31 : Int32)) ((v3.toInt32) &&& (31 : Int32))) (own_F4 ((v1.toInt32) &&& (31 : Int32)) ((v2.toInt32) &&& (31 : Int32)) ((v3.toInt32) &&& (31 : Int32)) v5) (T270.heap) n0 Z298 F283 F285 F286 F287 F288 F289 F290 F291 F292 F293 F294 F295 F296 F270_0n F284 F297 (rl1 : (¬ v5 < 0 ∧ v5.toNatClampNeg < 16)) ((by rcases hr3 with q | q | q <;> first | exact absurd q hs207_30 | (rw [q, hv29, hv27, hv22, hv17, hv10]; decide)) : ((v29 v5.toNatClampNeg) - (1 : Int32)) = (0 : Int32)) ((by rw [hF3]; exact own_V3) : own_V 3 v26) (by decide : 3 ≤ 3) (HH3 : own_HH 3 v23 (own_HM ((v1.toInt32) &&& (31 : Int32)) ((v2.toInt32) &&& (31 : Int32)) ((v3.toInt32) &&& (31 : Int32)))) ((by rw [hF3, HHr]; exact ca) : own_slt v26 v5 8 (((v23 v5.toNatClampNeg).toInt32) &&& (31 : Int32)) = some (own_RS ((v1.toInt32) &&& (31 : Int32)) ((v2.toInt32) &&& (31 : Int32)) ((v3.toInt32) &&& (31 : Int32)) v5)) ((by rw [hF3]; exact cb) : own_rms (own_HM ((v1.toInt32) &&& (31 : Int32)) ((v2.toInt32) &&& (31 : Int32)) ((v3.toInt32) &&& (31 : Int32))) 8 v26 (own_RS ((v1.toInt32) &&& (31 : Int32)) ((v2.toInt32) &&& (31 : Int32)) ((v3.toInt32) &&& (31 : Int32)) v5) (((own_RS ((v1.toInt32) &&& (31 : Int32)) ((v2.toInt32) &&& (31 : Int32)) ((v3.toInt32) &&& (31 : Int32)) v5) + (1 : Int32)) &&& (31 : Int32)) = some (own_F4 ((v1.toInt32) &&& (31 : Int32)) ((v2.toInt32) &&& (31 : Int32)) ((v3.toInt32) &&& (31 : Int32)) v5)) ne_b178_b202_3 F202_8 F202_12 F202_15 (Ne.symm F202_18) (Ne.symm F202_19) g_b202_3 g_b202_5 ne_b178_b202_5 F202_10 F202_14 F202_17 F202_20 F202_19 (Ne.symm ne_b178_b202_0) (Ne.symm ne_b178_b202_1) (Ne.symm ne_b178_b202_2) (Ne.symm ne_b178_b202_4) (Ne.symm ne_b178_b202_3) (Ne.symm ne_b178_b202_5) g_b178 ne_b178_b202_4 F202_9 F202_13 F202_16 F202_18 (Ne.symm F202_20) g_b202_4) hZ (own_wd hw 107 rfl) (own_wd hw 27 rfl) (by decide) (by decide)) q352a q352c (g := (mkF m 211 #[.val (.long q0), .second, .val (.long q1), .second, .val (.long q2), .second, .val (.long q3), .second, .val (.int p4), .val (.ref b101), .val (.ref b111), .val (.ref b127), .val (.ref b149), .val (.int v5), .val (.int (0 : Int32)), .val (.ref b178), .val (.int (0 : Int32)), .val (.int (1 : Int32)), .val (.int (2 : Int32)), .unset, .unset, .unset, .unset, .unset, .unset, .unset, .unset, .unset] [(.int v5), (.ref b178)])) rfl (by rw [hml]; rfl) (Steps.refl _) (argsL := [(.int v5)]) (rest := []) (lenOf pd14 rfl) rfl (by show 2 * 0 + _ ≤ _; exact Nat.le_of_eq rfl) (hb hby at_211) (fun _ _ => ⟨rfl, (rfl : T270.heap = T270.heap), (by decide : 11 + 0 ≤ _), (by decide : 129 + 0 ≤ _)⟩)
      dsimp only [Pt.U, Pt.locs, Pt.cells, Pt.slots] at X352 l352 y352 z352 st352 hQ352
      subst l352 y352 z352
      obtain ⟨rfl, N352q, K352q, F352_0, F352_1, F352_2, F352_3, F352_4, F352_5, F352_6, F352_7, F352_8, F352_9, F352_10, F352_11, F352_12⟩ := hQ352
      have F353 := F271.keep K352q
      have F354 := F272.keep K352q (ninS ne_b101_b202_3 (ninS ne_b101_b202_5 (ninS ne_b101_b178 (ninS ne_b101_b202_4 nin0))))
      have F355 := F273.keep K352q (ninS ne_b101_b202_3 (ninS ne_b101_b202_5 (ninS ne_b101_b178 (ninS ne_b101_b202_4 nin0))))
      have F356 := F274.keep K352q
      have F357 := F275.keep K352q (ninS ne_b111_b202_3 (ninS ne_b111_b202_5 (ninS ne_b111_b178 (ninS ne_b111_b202_4 nin0))))
      have F358 := F276.keep K352q (ninS ne_b111_b202_3 (ninS ne_b111_b202_5 (ninS ne_b111_b178 (ninS ne_b111_b202_4 nin0))))
      have F359 := F277.keep K352q
      have F360 := F278.keep K352q (ninS ne_b127_b202_3 (ninS ne_b127_b202_5 (ninS ne_b127_b178 (ninS ne_b127_b202_4 nin0))))
      have F361 := F279.keep K352q (ninS ne_b127_b202_3 (ninS ne_b127_b202_5 (ninS ne_b127_b178 (ninS ne_b127_b202_4 nin0))))
      have F362 := F280.keep K352q
      have F363 := F281.keep K352q (ninS ne_b149_b202_3 (ninS ne_b149_b202_5 (ninS ne_b149_b178 (ninS ne_b149_b202_4 nin0))))
      have F364 := F282.keep K352q (ninS ne_b149_b202_3 (ninS ne_b149_b202_5 (ninS ne_b149_b178 (ninS ne_b149_b202_4 nin0))))
      have F365 := F283.keep K352q
      have F366 := F294.keep K352q (ninS F202_8 (ninS F202_10 (ninS (Ne.symm ne_b178_b202_0) (ninS F202_9 nin0))))
      have F367 := F295.keep K352q (ninS F202_12 (ninS F202_14 (ninS (Ne.symm ne_b178_b202_1) (ninS F202_13 nin0))))
      have F368 := F296.keep K352q (ninS F202_15 (ninS F202_17 (ninS (Ne.symm ne_b178_b202_2) (ninS F202_16 nin0))))
      have Z369 : n0 ≤ T352.heap.size := Nat.le_trans Z298 K352q.1
      have K370 : Keep h0 T352.heap [] := K299.trans K352q (allS (Or.inr sz_b202_3) (allS (Or.inr sz_b202_5) (allS (Or.inr sz_b178) (allS (Or.inr sz_b202_4) all0))))
      obtain ⟨v37, hv37⟩ : ∃ z : Nat → Int32, z = (own_up v29 (v5.toNatClampNeg) ((v29 v5.toNatClampNeg) - (1 : Int32))) := ⟨_, rfl⟩
      have F352_0n : own_AI Z T352.heap b202_3 .int 16 v37 := by rw [hv37]; exact F352_0
      obtain ⟨v38, hv38⟩ : ∃ z : Nat → Int32, z = (own_F4 ((v1.toInt32) &&& (31 : Int32)) ((v2.toInt32) &&& (31 : Int32)) ((v3.toInt32) &&& (31 : Int32)) v5) := ⟨_, rfl⟩
      have F352_1n : own_AI Z T352.heap b202_5 .int 32 v38 := by rw [hv38]; exact F352_1
      obtain ⟨v39, hv39⟩ : ∃ z : Nat → Int32, z = (own_up v11 0 v5) := ⟨_, rfl⟩
      have F352_12n : own_AI Z T352.heap b202_4 .int 16 v39 := by rw [hv39]; exact F352_12
      have N352 := Fr.app N270 N352q
      have hF4 : v38 = (own_F4 ((v1.toInt32) &&& (31 : Int32)) ((v2.toInt32) &&& (31 : Int32)) ((v3.toInt32) &&& (31 : Int32)) v5) := hv38
      obtain ⟨cq371, kq371, q371a, q371b, q371c⟩ := isOf hZ (rfl : T352.heap = T352.heap) F352_2
      obtain ⟨_, _, ⟨T371, L371, k371, n371⟩, -, X371, ⟨Lc371, hQ371, l371, y371, z371⟩, st371⟩ := X352.virtualBack hx (y := (⟨"com/example/upper_falls/upperfalls/HeldKeys", "find", "(Lcom/example/upper_falls/upperfalls/KeyHash;)I"⟩ : MethodName)) (z := (⟨"com/example/upper_falls/upperfalls/HeldKeys", "find", "(Lcom/example/upper_falls/upperfalls/KeyHash;)I"⟩ : MethodName)) hown (mvT hZ (own_wd hw 108 rfl)) (mvT hZ (own_wd hw 77 rfl)) (notFace_of_selects (args := #[]) (mvT hZ (own_wd hw 79 rfl))) (mvT hZ (own_wd hw 79 rfl)) (mvT hZ (own_wd hw 78 rfl)) (by decide) (backOf (W := 0) (rmfd l Z a0 hw [] b178 b101 b202_5 b202_0 b202_1 v38 v23 v24 v1 (0 : Int64) (0 : Int32) 3 (0 : Int32) (T352.heap) n0 Z369 F352_2 F352_8 F352_3 F352_4 F352_1n F366 F367 F353 F354 F355 ((by rw [hF4]; exact V4) : own_V 3 v38) ((own_Mk (t := 0) (by decide) (by decide) rfl rfl G3 (fun _ => P0)) : own_M 3 v23 v24 (0 : Int32) v1 (0 : Int64)) (by decide : 3 ≤ 3) ((by rw [hF4, ck0, if_neg hs207_30]) : own_fnd v38 (0 : Int32) 8 ((v1.toInt32) &&& (31 : Int32)) = some (0 : Int32))) hZ (own_wd hw 80 rfl) (own_wd hw 27 rfl) (by decide) (by decide)) q371a q371c (g := (mkF m 232 #[.val (.long q0), .second, .val (.long q1), .second, .val (.long q2), .second, .val (.long q3), .second, .val (.int p4), .val (.ref b101), .val (.ref b111), .val (.ref b127), .val (.ref b149), .val (.int v5), .val (.int (0 : Int32)), .val (.ref b178), .val (.int (0 : Int32)), .val (.int (1 : Int32)), .val (.int (2 : Int32)), .val (.int (1 : Int32)), .unset, .unset, .unset, .unset, .unset, .unset, .unset, .unset] [(.ref b101), (.ref b178)])) rfl (by rw [hml]; rfl) (Steps.refl _) (argsL := [(.ref b101)]) (rest := []) (lenOf pd13 rfl) rfl (by show 2 * 0 + _ ≤ _; exact Nat.le_of_eq rfl) (hb hby at_232) (fun _ _ => ⟨rfl, (rfl : T352.heap = T352.heap), (by decide : 11 + 0 ≤ _), (by decide : 129 + 0 ≤ _)⟩)
      dsimp only [Pt.U, Pt.locs, Pt.cells, Pt.slots] at X371 l371 y371 z371 st371 hQ371
      subst l371 y371 z371
      obtain ⟨rfl, N371q, e371⟩ := hQ371
      have N371 := Fr.app N352 N371q
      obtain ⟨cq372, kq372, q372a, q372b, q372c⟩ := isOf hZ e371 F352_2
      obtain ⟨_, _, ⟨T372, L372, k372, n372⟩, -, X372, ⟨Lc372, hQ372, l372, y372, z372⟩, st372⟩ := X371.virtualBack hx (y := (⟨"com/example/upper_falls/upperfalls/HeldKeys", "find", "(Lcom/example/upper_falls/upperfalls/KeyHash;)I"⟩ : MethodName)) (z := (⟨"com/example/upper_falls/upperfalls/HeldKeys", "find", "(Lcom/example/upper_falls/upperfalls/KeyHash;)I"⟩ : MethodName)) hown (mvT hZ (own_wd hw 108 rfl)) (mvT hZ (own_wd hw 77 rfl)) (notFace_of_selects (args := #[]) (mvT hZ (own_wd hw 79 rfl))) (mvT hZ (own_wd hw 79 rfl)) (mvT hZ (own_wd hw 78 rfl)) (by decide) (backOf (W := 0) (rmfd l Z a0 hw [] b178 b111 b202_5 b202_0 b202_1 v38 v23 v24 v2 (1 : Int64) (1 : Int32) 3 (if v5 = (1 : Int32) then (-1 : Int32) else (1 : Int32)) (T352.heap) n0 Z369 F352_2 F352_8 F352_3 F352_4 F352_1n F366 F367 F356 F357 F358 ((by rw [hF4]; exact V4) : own_V 3 v38) ((own_Mk (t := 1) (by decide) (by decide) rfl rfl G3 (fun _ => P1)) : own_M 3 v23 v24 (1 : Int32) v2 (1 : Int64)) (by decide : 3 ≤ 3) ((by rw [hF4]; exact ck1) : own_fnd v38 (1 : Int32) 8 ((v2.toInt32) &&& (31 : Int32)) = some (if v5 = (1 : Int32) then (-1 : Int32) else (1 : Int32)))) hZ (own_wd hw 80 rfl) (own_wd hw 27 rfl) (by decide) (by decide)) q372a q372c (g := (mkF m 241 #[.val (.long q0), .second, .val (.long q1), .second, .val (.long q2), .second, .val (.long q3), .second, .val (.int p4), .val (.ref b101), .val (.ref b111), .val (.ref b127), .val (.ref b149), .val (.int v5), .val (.int (0 : Int32)), .val (.ref b178), .val (.int (0 : Int32)), .val (.int (1 : Int32)), .val (.int (2 : Int32)), .val (.int (1 : Int32)), .val (.int (0 : Int32)), .unset, .unset, .unset, .unset, .unset, .unset, .unset] [(.ref b111), (.ref b178)])) rfl (by rw [hml]; rfl) (Steps.refl _) (argsL := [(.ref b111)]) (rest := []) (lenOf pd13 rfl) rfl (by show 2 * 0 + _ ≤ _; exact Nat.le_of_eq rfl) (hb hby at_241) (fun _ _ => ⟨rfl, e371, (by decide : 11 + 0 ≤ _), (by decide : 129 + 0 ≤ _)⟩)
      dsimp only [Pt.U, Pt.locs, Pt.cells, Pt.slots] at X372 l372 y372 z372 st372 hQ372
      subst l372 y372 z372
      obtain ⟨rfl, N372q, e372⟩ := hQ372
      have N372 := Fr.app N371 N372q
      obtain ⟨v40, hv40⟩ : ∃ z : Int32, z = (if v5 = (1 : Int32) then (-1 : Int32) else (1 : Int32)) := ⟨_, rfl⟩
      obtain ⟨cq373, kq373, q373a, q373b, q373c⟩ := isOf hZ e372 F352_2
      obtain ⟨_, _, ⟨T373, L373, k373, n373⟩, -, X373, ⟨Lc373, hQ373, l373, y373, z373⟩, st373⟩ := X372.virtualBack hx (y := (⟨"com/example/upper_falls/upperfalls/HeldKeys", "find", "(Lcom/example/upper_falls/upperfalls/KeyHash;)I"⟩ : MethodName)) (z := (⟨"com/example/upper_falls/upperfalls/HeldKeys", "find", "(Lcom/example/upper_falls/upperfalls/KeyHash;)I"⟩ : MethodName)) hown (mvT hZ (own_wd hw 108 rfl)) (mvT hZ (own_wd hw 77 rfl)) (notFace_of_selects (args := #[]) (mvT hZ (own_wd hw 79 rfl))) (mvT hZ (own_wd hw 79 rfl)) (mvT hZ (own_wd hw 78 rfl)) (by decide) (backOf (W := 0) (rmfd l Z a0 hw [] b178 b127 b202_5 b202_0 b202_1 v38 v23 v24 v3 (2 : Int64) (2 : Int32) 3 (if v5 = (2 : Int32) then (-1 : Int32) else (2 : Int32)) (T352.heap) n0 Z369 F352_2 F352_8 F352_3 F352_4 F352_1n F366 F367 F359 F360 F361 ((by rw [hF4]; exact V4) : own_V 3 v38) ((own_Mk (t := 2) (by decide) (by decide) rfl rfl G3 (fun _ => P2)) : own_M 3 v23 v24 (2 : Int32) v3 (2 : Int64)) (by decide : 3 ≤ 3) ((by rw [hF4]; exact ck2) : own_fnd v38 (2 : Int32) 8 ((v3.toInt32) &&& (31 : Int32)) = some (if v5 = (2 : Int32) then (-1 : Int32) else (2 : Int32)))) hZ (own_wd hw 80 rfl) (own_wd hw 27 rfl) (by decide) (by decide)) q373a q373c (g := (mkF m 250 #[.val (.long q0), .second, .val (.long q1), .second, .val (.long q2), .second, .val (.long q3), .second, .val (.int p4), .val (.ref b101), .val (.ref b111), .val (.ref b127), .val (.ref b149), .val (.int v5), .val (.int (0 : Int32)), .val (.ref b178), .val (.int (0 : Int32)), .val (.int (1 : Int32)), .val (.int (2 : Int32)), .val (.int (1 : Int32)), .val (.int (0 : Int32)), .val (.int v40), .unset, .unset, .unset, .unset, .unset, .unset] [(.ref b127), (.ref b178)])) rfl (by rw [hml]; rfl) (Steps.refl _) (argsL := [(.ref b127)]) (rest := []) (lenOf pd13 rfl) rfl (by show 2 * 0 + _ ≤ _; exact Nat.le_of_eq rfl) (hb hby at_250) (fun _ _ => ⟨rfl, e372, (by decide : 11 + 0 ≤ _), (by decide : 129 + 0 ≤ _)⟩)
      dsimp only [Pt.U, Pt.locs, Pt.cells, Pt.slots] at X373 l373 y373 z373 st373 hQ373
      subst l373 y373 z373
      obtain ⟨rfl, N373q, e373⟩ := hQ373
      have N373 := Fr.app N372 N373q
      obtain ⟨v41, hv41⟩ : ∃ z : Int32, z = (if v5 = (2 : Int32) then (-1 : Int32) else (2 : Int32)) := ⟨_, rfl⟩
      obtain ⟨T376, lc376, X376, N376, e376, st376⟩ := own_mrg (n0 := n0) (h := T352.heap) (g := (mkF m 280 #[.val (.long q0), .second, .val (.long q1), .second, .val (.long q2), .second, .val (.long q3), .second, .val (.int p4), .val (.ref b101), .val (.ref b111), .val (.ref b127), .val (.ref b149), .val (.int v5), .val (.int (0 : Int32)), .val (.ref b178), .val (.int (0 : Int32)), .val (.int (1 : Int32)), .val (.int (2 : Int32)), .val (.int (1 : Int32)), .val (.int (0 : Int32)), .val (.int v40), .val (.int v41), .val (.int (0 : Int32)), .unset, .unset, .unset, .unset] [(.int (1 : Int32)), (.int v5)])) (g' := (mkF m 288 #[.val (.long q0), .second, .val (.long q1), .second, .val (.long q2), .second, .val (.long q3), .second, .val (.int p4), .val (.ref b101), .val (.ref b111), .val (.ref b127), .val (.ref b149), .val (.int v5), .val (.int (0 : Int32)), .val (.ref b178), .val (.int (0 : Int32)), .val (.int (1 : Int32)), .val (.int (2 : Int32)), .val (.int (1 : Int32)), .val (.int (0 : Int32)), .val (.int v40), .val (.int v41), .val (.int (0 : Int32)), .unset, .unset, .unset, .unset] [(.int v40)])) X373 (by
        by_cases hc280_42 : v5 = (1 : Int32)
        · have hgo374 : ∀ t, Steps p.tables e below (T373.setTop (mkF m 288 #[.val (.long q0), .second, .val (.long q1), .second, .val (.long q2), .second, .val (.long q3), .second, .val (.int p4), .val (.ref b101), .val (.ref b111), .val (.ref b127), .val (.ref b149), .val (.int v5), .val (.int (0 : Int32)), .val (.ref b178), .val (.int (0 : Int32)), .val (.int (1 : Int32)), .val (.int (2 : Int32)), .val (.int (1 : Int32)), .val (.int (0 : Int32)), .val (.int v40), .val (.int v41), .val (.int (0 : Int32)), .unset, .unset, .unset, .unset] [(.int (-1 : Int32))])) t → Steps p.tables e below (T373.setTop (mkF m 280 #[.val (.long q0), .second, .val (.long q1), .second, .val (.long q2), .second, .val (.long q3), .second, .val (.int p4), .val (.ref b101), .val (.ref b111), .val (.ref b127), .val (.ref b149), .val (.int v5), .val (.int (0 : Int32)), .val (.ref b178), .val (.int (0 : Int32)), .val (.int (1 : Int32)), .val (.int (2 : Int32)), .val (.int (1 : Int32)), .val (.int (0 : Int32)), .val (.int v40), .val (.int v41), .val (.int (0 : Int32)), .unset, .unset, .unset, .unset] [(.int (1 : Int32)), (.int v5)])) t := by
            intro t kt
            show Steps p.tables e below (T373.setTop (mkF m 280 #[.val (.long q0), .second, .val (.long q1), .second, .val (.long q2), .second, .val (.long q3), .second, .val (.int p4), .val (.ref b101), .val (.ref b111), .val (.ref b127), .val (.ref b149), .val (.int v5), .val (.int (0 : Int32)), .val (.ref b178), .val (.int (0 : Int32)), .val (.int (1 : Int32)), .val (.int (2 : Int32)), .val (.int (1 : Int32)), .val (.int (0 : Int32)), .val (.int v40), .val (.int v41), .val (.int (0 : Int32)), .unset, .unset, .unset, .unset] [(.int (1 : Int32)), (.int v5)])) _
            refine XS.icmpNo X373.here hx rfl (hb hby at_280) rfl (teq hc280_42).2 ?_
            show Steps p.tables e below (T373.setTop (mkF m 283 #[.val (.long q0), .second, .val (.long q1), .second, .val (.long q2), .second, .val (.long q3), .second, .val (.int p4), .val (.ref b101), .val (.ref b111), .val (.ref b127), .val (.ref b149), .val (.int v5), .val (.int (0 : Int32)), .val (.ref b178), .val (.int (0 : Int32)), .val (.int (1 : Int32)), .val (.int (2 : Int32)), .val (.int (1 : Int32)), .val (.int (0 : Int32)), .val (.int v40), .val (.int v41), .val (.int (0 : Int32)), .unset, .unset, .unset, .unset] [])) _
            refine XS.iconst X373.here hx rfl (hb hby at_283) ?_
            refine XS.goto X373.here hx rfl (pc0 := 284) (pc' := 288) rfl (hb hby at_284) (by decide) (by decide) ?_
            exact kt
          refine own_arm hgo374 ?_
          exact own_armEnd X373 N373 e373 (by rw [hv40.trans (if_pos hc280_42)])
        · have hgo375 : ∀ t, Steps p.tables e below (T373.setTop (mkF m 288 #[.val (.long q0), .second, .val (.long q1), .second, .val (.long q2), .second, .val (.long q3), .second, .val (.int p4), .val (.ref b101), .val (.ref b111), .val (.ref b127), .val (.ref b149), .val (.int v5), .val (.int (0 : Int32)), .val (.ref b178), .val (.int (0 : Int32)), .val (.int (1 : Int32)), .val (.int (2 : Int32)), .val (.int (1 : Int32)), .val (.int (0 : Int32)), .val (.int v40), .val (.int v41), .val (.int (0 : Int32)), .unset, .unset, .unset, .unset] [(.int (1 : Int32))])) t → Steps p.tables e below (T373.setTop (mkF m 280 #[.val (.long q0), .second, .val (.long q1), .second, .val (.long q2), .second, .val (.long q3), .second, .val (.int p4), .val (.ref b101), .val (.ref b111), .val (.ref b127), .val (.ref b149), .val (.int v5), .val (.int (0 : Int32)), .val (.ref b178), .val (.int (0 : Int32)), .val (.int (1 : Int32)), .val (.int (2 : Int32)), .val (.int (1 : Int32)), .val (.int (0 : Int32)), .val (.int v40), .val (.int v41), .val (.int (0 : Int32)), .unset, .unset, .unset, .unset] [(.int (1 : Int32)), (.int v5)])) t := by
            intro t kt
            show Steps p.tables e below (T373.setTop (mkF m 280 #[.val (.long q0), .second, .val (.long q1), .second, .val (.long q2), .second, .val (.long q3), .second, .val (.int p4), .val (.ref b101), .val (.ref b111), .val (.ref b127), .val (.ref b149), .val (.int v5), .val (.int (0 : Int32)), .val (.ref b178), .val (.int (0 : Int32)), .val (.int (1 : Int32)), .val (.int (2 : Int32)), .val (.int (1 : Int32)), .val (.int (0 : Int32)), .val (.int v40), .val (.int v41), .val (.int (0 : Int32)), .unset, .unset, .unset, .unset] [(.int (1 : Int32)), (.int v5)])) _
            refine XS.icmpYes X373.here hx rfl (pc0 := 280) (pc' := 287) rfl (hb hby at_280) rfl (feq hc280_42).2 (by decide) (by decide) ?_
            show Steps p.tables e below (T373.setTop (mkF m 287 #[.val (.long q0), .second, .val (.long q1), .second, .val (.long q2), .second, .val (.long q3), .second, .val (.int p4), .val (.ref b101), .val (.ref b111), .val (.ref b127), .val (.ref b149), .val (.int v5), .val (.int (0 : Int32)), .val (.ref b178), .val (.int (0 : Int32)), .val (.int (1 : Int32)), .val (.int (2 : Int32)), .val (.int (1 : Int32)), .val (.int (0 : Int32)), .val (.int v40), .val (.int v41), .val (.int (0 : Int32)), .unset, .unset, .unset, .unset] [])) _
            refine XS.iconst X373.here hx rfl (hb hby at_287) ?_
            exact kt
          refine own_arm hgo375 ?_
          exact own_armEnd X373 N373 e373 (by rw [hv40.trans (if_neg hc280_42)]))
      obtain ⟨T379, lc379, X379, N379, e379, st379⟩ := own_mrg (n0 := n0) (h := T352.heap) (g := (mkF m 298 #[.val (.long q0), .second, .val (.long q1), .second, .val (.long q2), .second, .val (.long q3), .second, .val (.int p4), .val (.ref b101), .val (.ref b111), .val (.ref b127), .val (.ref b149), .val (.int v5), .val (.int (0 : Int32)), .val (.ref b178), .val (.int (0 : Int32)), .val (.int (1 : Int32)), .val (.int (2 : Int32)), .val (.int (1 : Int32)), .val (.int (0 : Int32)), .val (.int v40), .val (.int v41), .val (.int (0 : Int32)), .val (.int v40), .unset, .unset, .unset] [(.int (2 : Int32)), (.int v5)])) (g' := (mkF m 306 #[.val (.long q0), .second, .val (.long q1), .second, .val (.long q2), .second, .val (.long q3), .second, .val (.int p4), .val (.ref b101), .val (.ref b111), .val (.ref b127), .val (.ref b149), .val (.int v5), .val (.int (0 : Int32)), .val (.ref b178), .val (.int (0 : Int32)), .val (.int (1 : Int32)), .val (.int (2 : Int32)), .val (.int (1 : Int32)), .val (.int (0 : Int32)), .val (.int v40), .val (.int v41), .val (.int (0 : Int32)), .val (.int v40), .unset, .unset, .unset] [(.int v41)])) X376 (by
        by_cases hc298_43 : v5 = (2 : Int32)
        · have hgo377 : ∀ t, Steps p.tables e below (T376.setTop (mkF m 306 #[.val (.long q0), .second, .val (.long q1), .second, .val (.long q2), .second, .val (.long q3), .second, .val (.int p4), .val (.ref b101), .val (.ref b111), .val (.ref b127), .val (.ref b149), .val (.int v5), .val (.int (0 : Int32)), .val (.ref b178), .val (.int (0 : Int32)), .val (.int (1 : Int32)), .val (.int (2 : Int32)), .val (.int (1 : Int32)), .val (.int (0 : Int32)), .val (.int v40), .val (.int v41), .val (.int (0 : Int32)), .val (.int v40), .unset, .unset, .unset] [(.int (-1 : Int32))])) t → Steps p.tables e below (T376.setTop (mkF m 298 #[.val (.long q0), .second, .val (.long q1), .second, .val (.long q2), .second, .val (.long q3), .second, .val (.int p4), .val (.ref b101), .val (.ref b111), .val (.ref b127), .val (.ref b149), .val (.int v5), .val (.int (0 : Int32)), .val (.ref b178), .val (.int (0 : Int32)), .val (.int (1 : Int32)), .val (.int (2 : Int32)), .val (.int (1 : Int32)), .val (.int (0 : Int32)), .val (.int v40), .val (.int v41), .val (.int (0 : Int32)), .val (.int v40), .unset, .unset, .unset] [(.int (2 : Int32)), (.int v5)])) t := by
            intro t kt
            show Steps p.tables e below (T376.setTop (mkF m 298 #[.val (.long q0), .second, .val (.long q1), .second, .val (.long q2), .second, .val (.long q3), .second, .val (.int p4), .val (.ref b101), .val (.ref b111), .val (.ref b127), .val (.ref b149), .val (.int v5), .val (.int (0 : Int32)), .val (.ref b178), .val (.int (0 : Int32)), .val (.int (1 : Int32)), .val (.int (2 : Int32)), .val (.int (1 : Int32)), .val (.int (0 : Int32)), .val (.int v40), .val (.int v41), .val (.int (0 : Int32)), .val (.int v40), .unset, .unset, .unset] [(.int (2 : Int32)), (.int v5)])) _
            refine XS.icmpNo X376.here hx rfl (hb hby at_298) rfl (teq hc298_43).2 ?_
            show Steps p.tables e below (T376.setTop (mkF m 301 #[.val (.long q0), .second, .val (.long q1), .second, .val (.long q2), .second, .val (.long q3), .second, .val (.int p4), .val (.ref b101), .val (.ref b111), .val (.ref b127), .val (.ref b149), .val (.int v5), .val (.int (0 : Int32)), .val (.ref b178), .val (.int (0 : Int32)), .val (.int (1 : Int32)), .val (.int (2 : Int32)), .val (.int (1 : Int32)), .val (.int (0 : Int32)), .val (.int v40), .val (.int v41), .val (.int (0 : Int32)), .val (.int v40), .unset, .unset, .unset] [])) _
            refine XS.iconst X376.here hx rfl (hb hby at_301) ?_
            refine XS.goto X376.here hx rfl (pc0 := 302) (pc' := 306) rfl (hb hby at_302) (by decide) (by decide) ?_
            exact kt
          refine own_arm hgo377 ?_
          exact own_armEnd X376 N376 e376 (by rw [hv41.trans (if_pos hc298_43)])
        · have hgo378 : ∀ t, Steps p.tables e below (T376.setTop (mkF m 306 #[.val (.long q0), .second, .val (.long q1), .second, .val (.long q2), .second, .val (.long q3), .second, .val (.int p4), .val (.ref b101), .val (.ref b111), .val (.ref b127), .val (.ref b149), .val (.int v5), .val (.int (0 : Int32)), .val (.ref b178), .val (.int (0 : Int32)), .val (.int (1 : Int32)), .val (.int (2 : Int32)), .val (.int (1 : Int32)), .val (.int (0 : Int32)), .val (.int v40), .val (.int v41), .val (.int (0 : Int32)), .val (.int v40), .unset, .unset, .unset] [(.int (2 : Int32))])) t → Steps p.tables e below (T376.setTop (mkF m 298 #[.val (.long q0), .second, .val (.long q1), .second, .val (.long q2), .second, .val (.long q3), .second, .val (.int p4), .val (.ref b101), .val (.ref b111), .val (.ref b127), .val (.ref b149), .val (.int v5), .val (.int (0 : Int32)), .val (.ref b178), .val (.int (0 : Int32)), .val (.int (1 : Int32)), .val (.int (2 : Int32)), .val (.int (1 : Int32)), .val (.int (0 : Int32)), .val (.int v40), .val (.int v41), .val (.int (0 : Int32)), .val (.int v40), .unset, .unset, .unset] [(.int (2 : Int32)), (.int v5)])) t := by
            intro t kt
            show Steps p.tables e below (T376.setTop (mkF m 298 #[.val (.long q0), .second, .val (.long q1), .second, .val (.long q2), .second, .val (.long q3), .second, .val (.int p4), .val (.ref b101), .val (.ref b111), .val (.ref b127), .val (.ref b149), .val (.int v5), .val (.int (0 : Int32)), .val (.ref b178), .val (.int (0 : Int32)), .val (.int (1 : Int32)), .val (.int (2 : Int32)), .val (.int (1 : Int32)), .val (.int (0 : Int32)), .val (.int v40), .val (.int v41), .val (.int (0 : Int32)), .val (.int v40), .unset, .unset, .unset] [(.int (2 : Int32)), (.int v5)])) _
            refine XS.icmpYes X376.here hx rfl (pc0 := 298) (pc' := 305) rfl (hb hby at_298) rfl (feq hc298_43).2 (by decide) (by decide) ?_
            show Steps p.tables e below (T376.setTop (mkF m 305 #[.val (.long q0), .second, .val (.long q1), .second, .val (.long q2), .second, .val (.long q3), .second, .val (.int p4), .val (.ref b101), .val (.ref b111), .val (.ref b127), .val (.ref b149), .val (.int v5), .val (.int (0 : Int32)), .val (.ref b178), .val (.int (0 : Int32)), .val (.int (1 : Int32)), .val (.int (2 : Int32)), .val (.int (1 : Int32)), .val (.int (0 : Int32)), .val (.int v40), .val (.int v41), .val (.int (0 : Int32)), .val (.int v40), .unset, .unset, .unset] [])) _
            refine XS.iconst X376.here hx rfl (hb hby at_305) ?_
            exact kt
          refine own_arm hgo378 ?_
          exact own_armEnd X376 N376 e376 (by rw [hv41.trans (if_neg hc298_43)]))
      obtain ⟨cq380, kq380, q380a, q380b, q380c⟩ := isOf hZ e379 F352_2
      obtain ⟨_, _, ⟨T380, L380, k380, n380⟩, -, X380, ⟨Lc380, hQ380, l380, y380, z380⟩, st380⟩ := X379.virtualBack hx (y := (⟨"com/example/upper_falls/upperfalls/HeldKeys", "hold", "(Lcom/example/upper_falls/upperfalls/KeyHash;)I"⟩ : MethodName)) (z := (⟨"com/example/upper_falls/upperfalls/HeldKeys", "hold", "(Lcom/example/upper_falls/upperfalls/KeyHash;)I"⟩ : MethodName)) hown (mvT hZ (own_wd hw 71 rfl)) (mvT hZ (own_wd hw 72 rfl)) (notFace_of_selects (args := #[]) (mvT hZ (own_wd hw 74 rfl))) (mvT hZ (own_wd hw 74 rfl)) (mvT hZ (own_wd hw 73 rfl)) (by decide) (backOf (W := 0) (rmhf l Z a0 hw [] b178 b149 b202_0 b202_1 b202_2 b202_3 b202_4 b202_5 v23 v24 v25 v37 v39 v38 v4 (3 : Int64) (3 : Int32) (3 : Int32) 3 (own_E (own_F4 ((v1.toInt32) &&& (31 : Int32)) ((v2.toInt32) &&& (31 : Int32)) ((v3.toInt32) &&& (31 : Int32)) v5) ((v4.toInt32) &&& (31 : Int32))) (T352.heap) n0 Z369 F352_2 F352_3 F352_4 F352_5 F352_6 F352_7 F352_8 F352_9 F352_10 F352_11 F366 F367 F368 F352_0n F352_12n F352_1n F362 F363 F364 ((by rw [hF4]; exact V4) : own_V 3 v38) ((own_Mk (t := 3) (by decide) (by decide) rfl rfl G3 (fun q => absurd q (by decide))) : own_M 3 v23 v24 (3 : Int32) v4 (3 : Int64)) (by decide : 3 ≤ 3) ((by rw [hF4]; exact ck3) : own_fnd v38 (3 : Int32) 8 ((v4.toInt32) &&& (31 : Int32)) = some (-1 : Int32)) ((by rw [hv39]; exact rl1) : (¬ (v39 0) < 0 ∧ (v39 0).toNatClampNeg < 16)) ((by rw [hF4]; exact cz3) : own_emp v38 8 ((v4.toInt32) &&& (31 : Int32)) = some (own_E (own_F4 ((v1.toInt32) &&& (31 : Int32)) ((v2.toInt32) &&& (31 : Int32)) ((v3.toInt32) &&& (31 : Int32)) v5) ((v4.toInt32) &&& (31 : Int32)))) (Ne.symm ne_b178_b202_0) (Ne.symm ne_b178_b202_1) (Ne.symm ne_b178_b202_2) (Ne.symm ne_b178_b202_3) (Ne.symm ne_b178_b202_4) (Ne.symm ne_b178_b202_5) ne_b149_b178 g_b178 ne_b178_b202_0 (Ne.symm F202_6) (Ne.symm F202_7) (Ne.symm F202_8) (Ne.symm F202_9) (Ne.symm F202_10) ne_b149_b202_0 g_b202_0 ne_b178_b202_1 (Ne.symm F202_11) (Ne.symm F202_12) (Ne.symm F202_13) (Ne.symm F202_14) ne_b149_b202_1 F202_6 g_b202_1 ne_b178_b202_2 (Ne.symm F202_15) (Ne.symm F202_16) (Ne.symm F202_17) ne_b149_b202_2 F202_7 F202_11 g_b202_2 ne_b178_b202_5 F202_19 F202_20 ne_b149_b202_5 F202_10 F202_14 F202_17 g_b202_5 ne_b178_b202_3 (Ne.symm F202_18) ne_b149_b202_3 F202_8 F202_12 F202_15 (Ne.symm F202_19) g_b202_3) hZ (own_wd hw 75 rfl) (own_wd hw 27 rfl) (by decide) (by decide)) q380a q380c (g := (mkF m 312 #[.val (.long q0), .second, .val (.long q1), .second, .val (.long q2), .second, .val (.long q3), .second, .val (.int p4), .val (.ref b101), .val (.ref b111), .val (.ref b127), .val (.ref b149), .val (.int v5), .val (.int (0 : Int32)), .val (.ref b178), .val (.int (0 : Int32)), .val (.int (1 : Int32)), .val (.int (2 : Int32)), .val (.int (1 : Int32)), .val (.int (0 : Int32)), .val (.int v40), .val (.int v41), .val (.int (0 : Int32)), .val (.int v40), .val (.int v41), .unset, .unset] [(.ref b149), (.ref b178)])) rfl (by rw [hml]; rfl) (Steps.refl _) (argsL := [(.ref b149)]) (rest := []) (lenOf pd13 rfl) rfl (by show 2 * 0 + _ ≤ _; exact Nat.le_of_eq rfl) (hb hby at_312) (fun _ _ => ⟨rfl, e379, (by decide : 11 + 0 ≤ _), (by decide : 129 + 0 ≤ _)⟩)
      dsimp only [Pt.U, Pt.locs, Pt.cells, Pt.slots] at X380 l380 y380 z380 st380 hQ380
      subst l380 y380 z380
      obtain ⟨rfl, N380q, K380q, F380_0, F380_1, F380_2, F380_3, F380_4, F380_5, F380_6, F380_7, F380_8, F380_9, F380_10, F380_11, F380_12, F380_13, F380_14⟩ := hQ380
      have F381 := F353.keep K380q
      have F382 := F354.keep K380q (ninS ne_b101_b178 (ninS ne_b101_b202_0 (ninS ne_b101_b202_1 (ninS ne_b101_b202_2 (ninS ne_b101_b202_5 (ninS ne_b101_b202_3 nin0))))))
      have F383 := F355.keep K380q (ninS ne_b101_b178 (ninS ne_b101_b202_0 (ninS ne_b101_b202_1 (ninS ne_b101_b202_2 (ninS ne_b101_b202_5 (ninS ne_b101_b202_3 nin0))))))
      have F384 := F356.keep K380q
      have F385 := F357.keep K380q (ninS ne_b111_b178 (ninS ne_b111_b202_0 (ninS ne_b111_b202_1 (ninS ne_b111_b202_2 (ninS ne_b111_b202_5 (ninS ne_b111_b202_3 nin0))))))
      have F386 := F358.keep K380q (ninS ne_b111_b178 (ninS ne_b111_b202_0 (ninS ne_b111_b202_1 (ninS ne_b111_b202_2 (ninS ne_b111_b202_5 (ninS ne_b111_b202_3 nin0))))))
      have F387 := F359.keep K380q
      have F388 := F360.keep K380q (ninS ne_b127_b178 (ninS ne_b127_b202_0 (ninS ne_b127_b202_1 (ninS ne_b127_b202_2 (ninS ne_b127_b202_5 (ninS ne_b127_b202_3 nin0))))))
      have F389 := F361.keep K380q (ninS ne_b127_b178 (ninS ne_b127_b202_0 (ninS ne_b127_b202_1 (ninS ne_b127_b202_2 (ninS ne_b127_b202_5 (ninS ne_b127_b202_3 nin0))))))
      have F390 := F362.keep K380q
      have F391 := F363.keep K380q (ninS ne_b149_b178 (ninS ne_b149_b202_0 (ninS ne_b149_b202_1 (ninS ne_b149_b202_2 (ninS ne_b149_b202_5 (ninS ne_b149_b202_3 nin0))))))
      have F392 := F364.keep K380q (ninS ne_b149_b178 (ninS ne_b149_b202_0 (ninS ne_b149_b202_1 (ninS ne_b149_b202_2 (ninS ne_b149_b202_5 (ninS ne_b149_b202_3 nin0))))))
      have F393 := F352_2.keep K380q
      have F394 := F352_12n.keep K380q (ninS (Ne.symm ne_b178_b202_4) (ninS (Ne.symm F202_9) (ninS (Ne.symm F202_13) (ninS (Ne.symm F202_16) (ninS F202_20 (ninS (Ne.symm F202_18) nin0))))))
      have Z395 : n0 ≤ T380.heap.size := Nat.le_trans Z369 K380q.1
      have K396 : Keep h0 T380.heap [] := K370.trans K380q (allS (Or.inr sz_b178) (allS (Or.inr sz_b202_0) (allS (Or.inr sz_b202_1) (allS (Or.inr sz_b202_2) (allS (Or.inr sz_b202_5) (allS (Or.inr sz_b202_3) all0))))))
      obtain ⟨v44, hv44⟩ : ∃ z : Nat → Int64, z = (own_up v23 ((v39 0).toNatClampNeg) v4) := ⟨_, rfl⟩
      have F380_10n : own_AJ Z T380.heap b202_0 .long 16 v44 := by rw [hv44]; exact F380_10
      obtain ⟨v45, hv45⟩ : ∃ z : Nat → Int64, z = (own_up v24 ((v39 0).toNatClampNeg) (3 : Int64)) := ⟨_, rfl⟩
      have F380_11n : own_AJ Z T380.heap b202_1 .long 16 v45 := by rw [hv45]; exact F380_11
      obtain ⟨v46, hv46⟩ : ∃ z : Nat → Int64, z = (own_up v25 ((v39 0).toNatClampNeg) (0 : Int64)) := ⟨_, rfl⟩
      have F380_12n : own_AJ Z T380.heap b202_2 .long 16 v46 := by rw [hv46]; exact F380_12
      obtain ⟨v47, hv47⟩ : ∃ z : Nat → Int32, z = (own_up v38 ((own_E (own_F4 ((v1.toInt32) &&& (31 : Int32)) ((v2.toInt32) &&& (31 : Int32)) ((v3.toInt32) &&& (31 : Int32)) v5) ((v4.toInt32) &&& (31 : Int32))).toNatClampNeg) (v39 0)) := ⟨_, rfl⟩
      have F380_13n : own_AI Z T380.heap b202_5 .int 32 v47 := by rw [hv47]; exact F380_13
      obtain ⟨v48, hv48⟩ : ∃ z : Nat → Int32, z = (own_up v37 ((v39 0).toNatClampNeg) ((v37 (v39 0).toNatClampNeg) + (1 : Int32))) := ⟨_, rfl⟩
      have F380_14n : own_AI Z T380.heap b202_3 .int 16 v48 := by rw [hv48]; exact F380_14
      have N380 := Fr.app N379 N380q
      obtain ⟨v49, hv49⟩ : ∃ z : Int32, z = (v39 0) := ⟨_, rfl⟩
      have hgo397 : ∀ t, Steps p.tables e below (T380.setTop (mkF m 363 #[.val (.long q0), .second, .val (.long q1), .second, .val (.long q2), .second, .val (.long q3), .second, .val (.int p4), .val (.ref b101), .val (.ref b111), .val (.ref b127), .val (.ref b149), .val (.int v5), .val (.int (0 : Int32)), .val (.ref b178), .val (.int (0 : Int32)), .val (.int (1 : Int32)), .val (.int (2 : Int32)), .val (.int (1 : Int32)), .val (.int (0 : Int32)), .val (.int v40), .val (.int v41), .val (.int (0 : Int32)), .val (.int v40), .val (.int v41), .val (.int v49), .val (.int v5)] [(.int (1 : Int32))])) t → Steps p.tables e below (T270.setTop (mkF m 207 #[.val (.long q0), .second, .val (.long q1), .second, .val (.long q2), .second, .val (.long q3), .second, .val (.int p4), .val (.ref b101), .val (.ref b111), .val (.ref b127), .val (.ref b149), .val (.int v5), .val (.int (0 : Int32)), .val (.ref b178), .val (.int (0 : Int32)), .val (.int (1 : Int32)), .val (.int (2 : Int32)), .unset, .unset, .unset, .unset, .unset, .unset, .unset, .unset, .unset] [])) t := by
        intro t kt
        show Steps p.tables e below (T270.setTop (mkF m 207 #[.val (.long q0), .second, .val (.long q1), .second, .val (.long q2), .second, .val (.long q3), .second, .val (.int p4), .val (.ref b101), .val (.ref b111), .val (.ref b127), .val (.ref b149), .val (.int v5), .val (.int (0 : Int32)), .val (.ref b178), .val (.int (0 : Int32)), .val (.int (1 : Int32)), .val (.int (2 : Int32)), .unset, .unset, .unset, .unset, .unset, .unset, .unset, .unset, .unset] [])) _
        refine XS.aload X270.here hx rfl (hb hby at_207) rfl rfl ?_
        refine XS.iload X270.here hx rfl (hb hby at_209) rfl ?_
        show Steps p.tables e below (T270.setTop (mkF m 211 #[.val (.long q0), .second, .val (.long q1), .second, .val (.long q2), .second, .val (.long q3), .second, .val (.int p4), .val (.ref b101), .val (.ref b111), .val (.ref b127), .val (.ref b149), .val (.int v5), .val (.int (0 : Int32)), .val (.ref b178), .val (.int (0 : Int32)), .val (.int (1 : Int32)), .val (.int (2 : Int32)), .unset, .unset, .unset, .unset, .unset, .unset, .unset, .unset, .unset] [(.int v5), (.ref b178)])) _
        refine st352.trans ?_
        show Steps p.tables e below (T352.setTop (mkF m 214 #[.val (.long q0), .second, .val (.long q1), .second, .val (.long q2), .second, .val (.long q3), .second, .val (.int p4), .val (.ref b101), .val (.ref b111), .val (.ref b127), .val (.ref b149), .val (.int v5), .val (.int (0 : Int32)), .val (.ref b178), .val (.int (0 : Int32)), .val (.int (1 : Int32)), .val (.int (2 : Int32)), .unset, .unset, .unset, .unset, .unset, .unset, .unset, .unset, .unset] [])) _
        refine XS.iload X352.here hx rfl (hb hby at_214) rfl ?_
        refine XS.iload X352.here hx rfl (hb hby at_216) rfl ?_
        refine XS.icmpNo X352.here hx rfl (hb hby at_218) rfl (feq (fun q => hs207_30 q.symm)).1 ?_
        show Steps p.tables e below (T352.setTop (mkF m 221 #[.val (.long q0), .second, .val (.long q1), .second, .val (.long q2), .second, .val (.long q3), .second, .val (.int p4), .val (.ref b101), .val (.ref b111), .val (.ref b127), .val (.ref b149), .val (.int v5), .val (.int (0 : Int32)), .val (.ref b178), .val (.int (0 : Int32)), .val (.int (1 : Int32)), .val (.int (2 : Int32)), .unset, .unset, .unset, .unset, .unset, .unset, .unset, .unset, .unset] [])) _
        refine XS.iconst X352.here hx rfl (hb hby at_221) ?_
        refine XS.goto X352.here hx rfl (pc0 := 222) (pc' := 226) rfl (hb hby at_222) (by decide) (by decide) ?_
        show Steps p.tables e below (T352.setTop (mkF m 226 #[.val (.long q0), .second, .val (.long q1), .second, .val (.long q2), .second, .val (.long q3), .second, .val (.int p4), .val (.ref b101), .val (.ref b111), .val (.ref b127), .val (.ref b149), .val (.int v5), .val (.int (0 : Int32)), .val (.ref b178), .val (.int (0 : Int32)), .val (.int (1 : Int32)), .val (.int (2 : Int32)), .unset, .unset, .unset, .unset, .unset, .unset, .unset, .unset, .unset] [(.int (1 : Int32))])) _
        refine XS.istore X352.here hx rfl (hb hby at_226) rfl (l' := #[.val (.long q0), .second, .val (.long q1), .second, .val (.long q2), .second, .val (.long q3), .second, .val (.int p4), .val (.ref b101), .val (.ref b111), .val (.ref b127), .val (.ref b149), .val (.int v5), .val (.int (0 : Int32)), .val (.ref b178), .val (.int (0 : Int32)), .val (.int (1 : Int32)), .val (.int (2 : Int32)), .val (.int (1 : Int32)), .unset, .unset, .unset, .unset, .unset, .unset, .unset, .unset]) rfl ?_
        show Steps p.tables e below (T352.setTop (mkF m 228 #[.val (.long q0), .second, .val (.long q1), .second, .val (.long q2), .second, .val (.long q3), .second, .val (.int p4), .val (.ref b101), .val (.ref b111), .val (.ref b127), .val (.ref b149), .val (.int v5), .val (.int (0 : Int32)), .val (.ref b178), .val (.int (0 : Int32)), .val (.int (1 : Int32)), .val (.int (2 : Int32)), .val (.int (1 : Int32)), .unset, .unset, .unset, .unset, .unset, .unset, .unset, .unset] [])) _
        refine XS.aload X352.here hx rfl (hb hby at_228) rfl rfl ?_
        refine XS.aload X352.here hx rfl (hb hby at_230) rfl rfl ?_
        show Steps p.tables e below (T352.setTop (mkF m 232 #[.val (.long q0), .second, .val (.long q1), .second, .val (.long q2), .second, .val (.long q3), .second, .val (.int p4), .val (.ref b101), .val (.ref b111), .val (.ref b127), .val (.ref b149), .val (.int v5), .val (.int (0 : Int32)), .val (.ref b178), .val (.int (0 : Int32)), .val (.int (1 : Int32)), .val (.int (2 : Int32)), .val (.int (1 : Int32)), .unset, .unset, .unset, .unset, .unset, .unset, .unset, .unset] [(.ref b101), (.ref b178)])) _
        refine st371.trans ?_
        show Steps p.tables e below (T371.setTop (mkF m 235 #[.val (.long q0), .second, .val (.long q1), .second, .val (.long q2), .second, .val (.long q3), .second, .val (.int p4), .val (.ref b101), .val (.ref b111), .val (.ref b127), .val (.ref b149), .val (.int v5), .val (.int (0 : Int32)), .val (.ref b178), .val (.int (0 : Int32)), .val (.int (1 : Int32)), .val (.int (2 : Int32)), .val (.int (1 : Int32)), .unset, .unset, .unset, .unset, .unset, .unset, .unset, .unset] [(.int (0 : Int32))])) _
        refine XS.istore X371.here hx rfl (hb hby at_235) rfl (l' := #[.val (.long q0), .second, .val (.long q1), .second, .val (.long q2), .second, .val (.long q3), .second, .val (.int p4), .val (.ref b101), .val (.ref b111), .val (.ref b127), .val (.ref b149), .val (.int v5), .val (.int (0 : Int32)), .val (.ref b178), .val (.int (0 : Int32)), .val (.int (1 : Int32)), .val (.int (2 : Int32)), .val (.int (1 : Int32)), .val (.int (0 : Int32)), .unset, .unset, .unset, .unset, .unset, .unset, .unset]) rfl ?_
        show Steps p.tables e below (T371.setTop (mkF m 237 #[.val (.long q0), .second, .val (.long q1), .second, .val (.long q2), .second, .val (.long q3), .second, .val (.int p4), .val (.ref b101), .val (.ref b111), .val (.ref b127), .val (.ref b149), .val (.int v5), .val (.int (0 : Int32)), .val (.ref b178), .val (.int (0 : Int32)), .val (.int (1 : Int32)), .val (.int (2 : Int32)), .val (.int (1 : Int32)), .val (.int (0 : Int32)), .unset, .unset, .unset, .unset, .unset, .unset, .unset] [])) _
        refine XS.aload X371.here hx rfl (hb hby at_237) rfl rfl ?_
        refine XS.aload X371.here hx rfl (hb hby at_239) rfl rfl ?_
        show Steps p.tables e below (T371.setTop (mkF m 241 #[.val (.long q0), .second, .val (.long q1), .second, .val (.long q2), .second, .val (.long q3), .second, .val (.int p4), .val (.ref b101), .val (.ref b111), .val (.ref b127), .val (.ref b149), .val (.int v5), .val (.int (0 : Int32)), .val (.ref b178), .val (.int (0 : Int32)), .val (.int (1 : Int32)), .val (.int (2 : Int32)), .val (.int (1 : Int32)), .val (.int (0 : Int32)), .unset, .unset, .unset, .unset, .unset, .unset, .unset] [(.ref b111), (.ref b178)])) _
        refine st372.trans ?_
        show Steps p.tables e below (T372.setTop (mkF m 244 #[.val (.long q0), .second, .val (.long q1), .second, .val (.long q2), .second, .val (.long q3), .second, .val (.int p4), .val (.ref b101), .val (.ref b111), .val (.ref b127), .val (.ref b149), .val (.int v5), .val (.int (0 : Int32)), .val (.ref b178), .val (.int (0 : Int32)), .val (.int (1 : Int32)), .val (.int (2 : Int32)), .val (.int (1 : Int32)), .val (.int (0 : Int32)), .unset, .unset, .unset, .unset, .unset, .unset, .unset] [(.int (if v5 = (1 : Int32) then (-1 : Int32) else (1 : Int32)))])) _
        rw [← hv40]
        show Steps p.tables e below (T372.setTop (mkF m 244 #[.val (.long q0), .second, .val (.long q1), .second, .val (.long q2), .second, .val (.long q3), .second, .val (.int p4), .val (.ref b101), .val (.ref b111), .val (.ref b127), .val (.ref b149), .val (.int v5), .val (.int (0 : Int32)), .val (.ref b178), .val (.int (0 : Int32)), .val (.int (1 : Int32)), .val (.int (2 : Int32)), .val (.int (1 : Int32)), .val (.int (0 : Int32)), .unset, .unset, .unset, .unset, .unset, .unset, .unset] [(.int v40)])) _
        refine XS.istore X372.here hx rfl (hb hby at_244) rfl (l' := #[.val (.long q0), .second, .val (.long q1), .second, .val (.long q2), .second, .val (.long q3), .second, .val (.int p4), .val (.ref b101), .val (.ref b111), .val (.ref b127), .val (.ref b149), .val (.int v5), .val (.int (0 : Int32)), .val (.ref b178), .val (.int (0 : Int32)), .val (.int (1 : Int32)), .val (.int (2 : Int32)), .val (.int (1 : Int32)), .val (.int (0 : Int32)), .val (.int v40), .unset, .unset, .unset, .unset, .unset, .unset]) rfl ?_
        show Steps p.tables e below (T372.setTop (mkF m 246 #[.val (.long q0), .second, .val (.long q1), .second, .val (.long q2), .second, .val (.long q3), .second, .val (.int p4), .val (.ref b101), .val (.ref b111), .val (.ref b127), .val (.ref b149), .val (.int v5), .val (.int (0 : Int32)), .val (.ref b178), .val (.int (0 : Int32)), .val (.int (1 : Int32)), .val (.int (2 : Int32)), .val (.int (1 : Int32)), .val (.int (0 : Int32)), .val (.int v40), .unset, .unset, .unset, .unset, .unset, .unset] [])) _
        refine XS.aload X372.here hx rfl (hb hby at_246) rfl rfl ?_
        refine XS.aload X372.here hx rfl (hb hby at_248) rfl rfl ?_
        show Steps p.tables e below (T372.setTop (mkF m 250 #[.val (.long q0), .second, .val (.long q1), .second, .val (.long q2), .second, .val (.long q3), .second, .val (.int p4), .val (.ref b101), .val (.ref b111), .val (.ref b127), .val (.ref b149), .val (.int v5), .val (.int (0 : Int32)), .val (.ref b178), .val (.int (0 : Int32)), .val (.int (1 : Int32)), .val (.int (2 : Int32)), .val (.int (1 : Int32)), .val (.int (0 : Int32)), .val (.int v40), .unset, .unset, .unset, .unset, .unset, .unset] [(.ref b127), (.ref b178)])) _
        refine st373.trans ?_
        show Steps p.tables e below (T373.setTop (mkF m 253 #[.val (.long q0), .second, .val (.long q1), .second, .val (.long q2), .second, .val (.long q3), .second, .val (.int p4), .val (.ref b101), .val (.ref b111), .val (.ref b127), .val (.ref b149), .val (.int v5), .val (.int (0 : Int32)), .val (.ref b178), .val (.int (0 : Int32)), .val (.int (1 : Int32)), .val (.int (2 : Int32)), .val (.int (1 : Int32)), .val (.int (0 : Int32)), .val (.int v40), .unset, .unset, .unset, .unset, .unset, .unset] [(.int (if v5 = (2 : Int32) then (-1 : Int32) else (2 : Int32)))])) _
        rw [← hv41]
        show Steps p.tables e below (T373.setTop (mkF m 253 #[.val (.long q0), .second, .val (.long q1), .second, .val (.long q2), .second, .val (.long q3), .second, .val (.int p4), .val (.ref b101), .val (.ref b111), .val (.ref b127), .val (.ref b149), .val (.int v5), .val (.int (0 : Int32)), .val (.ref b178), .val (.int (0 : Int32)), .val (.int (1 : Int32)), .val (.int (2 : Int32)), .val (.int (1 : Int32)), .val (.int (0 : Int32)), .val (.int v40), .unset, .unset, .unset, .unset, .unset, .unset] [(.int v41)])) _
        refine XS.istore X373.here hx rfl (hb hby at_253) rfl (l' := #[.val (.long q0), .second, .val (.long q1), .second, .val (.long q2), .second, .val (.long q3), .second, .val (.int p4), .val (.ref b101), .val (.ref b111), .val (.ref b127), .val (.ref b149), .val (.int v5), .val (.int (0 : Int32)), .val (.ref b178), .val (.int (0 : Int32)), .val (.int (1 : Int32)), .val (.int (2 : Int32)), .val (.int (1 : Int32)), .val (.int (0 : Int32)), .val (.int v40), .val (.int v41), .unset, .unset, .unset, .unset, .unset]) rfl ?_
        show Steps p.tables e below (T373.setTop (mkF m 255 #[.val (.long q0), .second, .val (.long q1), .second, .val (.long q2), .second, .val (.long q3), .second, .val (.int p4), .val (.ref b101), .val (.ref b111), .val (.ref b127), .val (.ref b149), .val (.int v5), .val (.int (0 : Int32)), .val (.ref b178), .val (.int (0 : Int32)), .val (.int (1 : Int32)), .val (.int (2 : Int32)), .val (.int (1 : Int32)), .val (.int (0 : Int32)), .val (.int v40), .val (.int v41), .unset, .unset, .unset, .unset, .unset] [])) _
        refine XS.iload X373.here hx rfl (hb hby at_255) rfl ?_
        refine XS.ifNo X373.here hx rfl (hb hby at_257) rfl ((if0 _ _).trans (feq (by decide : ¬ ((1 : Int32) = (0 : Int32)))).1) ?_
        show Steps p.tables e below (T373.setTop (mkF m 260 #[.val (.long q0), .second, .val (.long q1), .second, .val (.long q2), .second, .val (.long q3), .second, .val (.int p4), .val (.ref b101), .val (.ref b111), .val (.ref b127), .val (.ref b149), .val (.int v5), .val (.int (0 : Int32)), .val (.ref b178), .val (.int (0 : Int32)), .val (.int (1 : Int32)), .val (.int (2 : Int32)), .val (.int (1 : Int32)), .val (.int (0 : Int32)), .val (.int v40), .val (.int v41), .unset, .unset, .unset, .unset, .unset] [])) _
        refine XS.iload X373.here hx rfl (hb hby at_260) rfl ?_
        refine XS.ifYes X373.here hx rfl (pc0 := 262) (pc' := 269) rfl (hb hby at_262) rfl ((if0 _ _).trans (feq hs207_30).2) (by decide) (by decide) ?_
        show Steps p.tables e below (T373.setTop (mkF m 269 #[.val (.long q0), .second, .val (.long q1), .second, .val (.long q2), .second, .val (.long q3), .second, .val (.int p4), .val (.ref b101), .val (.ref b111), .val (.ref b127), .val (.ref b149), .val (.int v5), .val (.int (0 : Int32)), .val (.ref b178), .val (.int (0 : Int32)), .val (.int (1 : Int32)), .val (.int (2 : Int32)), .val (.int (1 : Int32)), .val (.int (0 : Int32)), .val (.int v40), .val (.int v41), .unset, .unset, .unset, .unset, .unset] [])) _
        refine XS.iconst X373.here hx rfl (hb hby at_269) ?_
        refine XS.istore X373.here hx rfl (hb hby at_270) rfl (l' := #[.val (.long q0), .second, .val (.long q1), .second, .val (.long q2), .second, .val (.long q3), .second, .val (.int p4), .val (.ref b101), .val (.ref b111), .val (.ref b127), .val (.ref b149), .val (.int v5), .val (.int (0 : Int32)), .val (.ref b178), .val (.int (0 : Int32)), .val (.int (1 : Int32)), .val (.int (2 : Int32)), .val (.int (1 : Int32)), .val (.int (0 : Int32)), .val (.int v40), .val (.int v41), .val (.int (0 : Int32)), .unset, .unset, .unset, .unset]) rfl ?_
        show Steps p.tables e below (T373.setTop (mkF m 272 #[.val (.long q0), .second, .val (.long q1), .second, .val (.long q2), .second, .val (.long q3), .second, .val (.int p4), .val (.ref b101), .val (.ref b111), .val (.ref b127), .val (.ref b149), .val (.int v5), .val (.int (0 : Int32)), .val (.ref b178), .val (.int (0 : Int32)), .val (.int (1 : Int32)), .val (.int (2 : Int32)), .val (.int (1 : Int32)), .val (.int (0 : Int32)), .val (.int v40), .val (.int v41), .val (.int (0 : Int32)), .unset, .unset, .unset, .unset] [])) _
        refine XS.iload X373.here hx rfl (hb hby at_272) rfl ?_
        refine XS.ifNo X373.here hx rfl (hb hby at_274) rfl ((if0 _ _).trans (feq (by decide : ¬ ((1 : Int32) = (0 : Int32)))).1) ?_
        show Steps p.tables e below (T373.setTop (mkF m 277 #[.val (.long q0), .second, .val (.long q1), .second, .val (.long q2), .second, .val (.long q3), .second, .val (.int p4), .val (.ref b101), .val (.ref b111), .val (.ref b127), .val (.ref b149), .val (.int v5), .val (.int (0 : Int32)), .val (.ref b178), .val (.int (0 : Int32)), .val (.int (1 : Int32)), .val (.int (2 : Int32)), .val (.int (1 : Int32)), .val (.int (0 : Int32)), .val (.int v40), .val (.int v41), .val (.int (0 : Int32)), .unset, .unset, .unset, .unset] [])) _
        refine XS.iload X373.here hx rfl (hb hby at_277) rfl ?_
        refine XS.iconst X373.here hx rfl (hb hby at_279) ?_
        show Steps p.tables e below (T373.setTop (mkF m 280 #[.val (.long q0), .second, .val (.long q1), .second, .val (.long q2), .second, .val (.long q3), .second, .val (.int p4), .val (.ref b101), .val (.ref b111), .val (.ref b127), .val (.ref b149), .val (.int v5), .val (.int (0 : Int32)), .val (.ref b178), .val (.int (0 : Int32)), .val (.int (1 : Int32)), .val (.int (2 : Int32)), .val (.int (1 : Int32)), .val (.int (0 : Int32)), .val (.int v40), .val (.int v41), .val (.int (0 : Int32)), .unset, .unset, .unset, .unset] [(.int (1 : Int32)), (.int v5)])) _
        refine st376 _ ?_
        show Steps p.tables e below (T376.setTop (mkF m 288 #[.val (.long q0), .second, .val (.long q1), .second, .val (.long q2), .second, .val (.long q3), .second, .val (.int p4), .val (.ref b101), .val (.ref b111), .val (.ref b127), .val (.ref b149), .val (.int v5), .val (.int (0 : Int32)), .val (.ref b178), .val (.int (0 : Int32)), .val (.int (1 : Int32)), .val (.int (2 : Int32)), .val (.int (1 : Int32)), .val (.int (0 : Int32)), .val (.int v40), .val (.int v41), .val (.int (0 : Int32)), .unset, .unset, .unset, .unset] [(.int v40)])) _
        refine XS.istore X376.here hx rfl (hb hby at_288) rfl (l' := #[.val (.long q0), .second, .val (.long q1), .second, .val (.long q2), .second, .val (.long q3), .second, .val (.int p4), .val (.ref b101), .val (.ref b111), .val (.ref b127), .val (.ref b149), .val (.int v5), .val (.int (0 : Int32)), .val (.ref b178), .val (.int (0 : Int32)), .val (.int (1 : Int32)), .val (.int (2 : Int32)), .val (.int (1 : Int32)), .val (.int (0 : Int32)), .val (.int v40), .val (.int v41), .val (.int (0 : Int32)), .val (.int v40), .unset, .unset, .unset]) rfl ?_
        show Steps p.tables e below (T376.setTop (mkF m 290 #[.val (.long q0), .second, .val (.long q1), .second, .val (.long q2), .second, .val (.long q3), .second, .val (.int p4), .val (.ref b101), .val (.ref b111), .val (.ref b127), .val (.ref b149), .val (.int v5), .val (.int (0 : Int32)), .val (.ref b178), .val (.int (0 : Int32)), .val (.int (1 : Int32)), .val (.int (2 : Int32)), .val (.int (1 : Int32)), .val (.int (0 : Int32)), .val (.int v40), .val (.int v41), .val (.int (0 : Int32)), .val (.int v40), .unset, .unset, .unset] [])) _
        refine XS.iload X376.here hx rfl (hb hby at_290) rfl ?_
        refine XS.ifNo X376.here hx rfl (hb hby at_292) rfl ((if0 _ _).trans (feq (by decide : ¬ ((1 : Int32) = (0 : Int32)))).1) ?_
        show Steps p.tables e below (T376.setTop (mkF m 295 #[.val (.long q0), .second, .val (.long q1), .second, .val (.long q2), .second, .val (.long q3), .second, .val (.int p4), .val (.ref b101), .val (.ref b111), .val (.ref b127), .val (.ref b149), .val (.int v5), .val (.int (0 : Int32)), .val (.ref b178), .val (.int (0 : Int32)), .val (.int (1 : Int32)), .val (.int (2 : Int32)), .val (.int (1 : Int32)), .val (.int (0 : Int32)), .val (.int v40), .val (.int v41), .val (.int (0 : Int32)), .val (.int v40), .unset, .unset, .unset] [])) _
        refine XS.iload X376.here hx rfl (hb hby at_295) rfl ?_
        refine XS.iconst X376.here hx rfl (hb hby at_297) ?_
        show Steps p.tables e below (T376.setTop (mkF m 298 #[.val (.long q0), .second, .val (.long q1), .second, .val (.long q2), .second, .val (.long q3), .second, .val (.int p4), .val (.ref b101), .val (.ref b111), .val (.ref b127), .val (.ref b149), .val (.int v5), .val (.int (0 : Int32)), .val (.ref b178), .val (.int (0 : Int32)), .val (.int (1 : Int32)), .val (.int (2 : Int32)), .val (.int (1 : Int32)), .val (.int (0 : Int32)), .val (.int v40), .val (.int v41), .val (.int (0 : Int32)), .val (.int v40), .unset, .unset, .unset] [(.int (2 : Int32)), (.int v5)])) _
        refine st379 _ ?_
        show Steps p.tables e below (T379.setTop (mkF m 306 #[.val (.long q0), .second, .val (.long q1), .second, .val (.long q2), .second, .val (.long q3), .second, .val (.int p4), .val (.ref b101), .val (.ref b111), .val (.ref b127), .val (.ref b149), .val (.int v5), .val (.int (0 : Int32)), .val (.ref b178), .val (.int (0 : Int32)), .val (.int (1 : Int32)), .val (.int (2 : Int32)), .val (.int (1 : Int32)), .val (.int (0 : Int32)), .val (.int v40), .val (.int v41), .val (.int (0 : Int32)), .val (.int v40), .unset, .unset, .unset] [(.int v41)])) _
        refine XS.istore X379.here hx rfl (hb hby at_306) rfl (l' := #[.val (.long q0), .second, .val (.long q1), .second, .val (.long q2), .second, .val (.long q3), .second, .val (.int p4), .val (.ref b101), .val (.ref b111), .val (.ref b127), .val (.ref b149), .val (.int v5), .val (.int (0 : Int32)), .val (.ref b178), .val (.int (0 : Int32)), .val (.int (1 : Int32)), .val (.int (2 : Int32)), .val (.int (1 : Int32)), .val (.int (0 : Int32)), .val (.int v40), .val (.int v41), .val (.int (0 : Int32)), .val (.int v40), .val (.int v41), .unset, .unset]) rfl ?_
        show Steps p.tables e below (T379.setTop (mkF m 308 #[.val (.long q0), .second, .val (.long q1), .second, .val (.long q2), .second, .val (.long q3), .second, .val (.int p4), .val (.ref b101), .val (.ref b111), .val (.ref b127), .val (.ref b149), .val (.int v5), .val (.int (0 : Int32)), .val (.ref b178), .val (.int (0 : Int32)), .val (.int (1 : Int32)), .val (.int (2 : Int32)), .val (.int (1 : Int32)), .val (.int (0 : Int32)), .val (.int v40), .val (.int v41), .val (.int (0 : Int32)), .val (.int v40), .val (.int v41), .unset, .unset] [])) _
        refine XS.aload X379.here hx rfl (hb hby at_308) rfl rfl ?_
        refine XS.aload X379.here hx rfl (hb hby at_310) rfl rfl ?_
        show Steps p.tables e below (T379.setTop (mkF m 312 #[.val (.long q0), .second, .val (.long q1), .second, .val (.long q2), .second, .val (.long q3), .second, .val (.int p4), .val (.ref b101), .val (.ref b111), .val (.ref b127), .val (.ref b149), .val (.int v5), .val (.int (0 : Int32)), .val (.ref b178), .val (.int (0 : Int32)), .val (.int (1 : Int32)), .val (.int (2 : Int32)), .val (.int (1 : Int32)), .val (.int (0 : Int32)), .val (.int v40), .val (.int v41), .val (.int (0 : Int32)), .val (.int v40), .val (.int v41), .unset, .unset] [(.ref b149), (.ref b178)])) _
        refine st380.trans ?_
        show Steps p.tables e below (T380.setTop (mkF m 315 #[.val (.long q0), .second, .val (.long q1), .second, .val (.long q2), .second, .val (.long q3), .second, .val (.int p4), .val (.ref b101), .val (.ref b111), .val (.ref b127), .val (.ref b149), .val (.int v5), .val (.int (0 : Int32)), .val (.ref b178), .val (.int (0 : Int32)), .val (.int (1 : Int32)), .val (.int (2 : Int32)), .val (.int (1 : Int32)), .val (.int (0 : Int32)), .val (.int v40), .val (.int v41), .val (.int (0 : Int32)), .val (.int v40), .val (.int v41), .unset, .unset] [(.int (v39 0))])) _
        rw [← hv49]
        show Steps p.tables e below (T380.setTop (mkF m 315 #[.val (.long q0), .second, .val (.long q1), .second, .val (.long q2), .second, .val (.long q3), .second, .val (.int p4), .val (.ref b101), .val (.ref b111), .val (.ref b127), .val (.ref b149), .val (.int v5), .val (.int (0 : Int32)), .val (.ref b178), .val (.int (0 : Int32)), .val (.int (1 : Int32)), .val (.int (2 : Int32)), .val (.int (1 : Int32)), .val (.int (0 : Int32)), .val (.int v40), .val (.int v41), .val (.int (0 : Int32)), .val (.int v40), .val (.int v41), .unset, .unset] [(.int v49)])) _
        refine XS.istore X380.here hx rfl (hb hby at_315) rfl (l' := #[.val (.long q0), .second, .val (.long q1), .second, .val (.long q2), .second, .val (.long q3), .second, .val (.int p4), .val (.ref b101), .val (.ref b111), .val (.ref b127), .val (.ref b149), .val (.int v5), .val (.int (0 : Int32)), .val (.ref b178), .val (.int (0 : Int32)), .val (.int (1 : Int32)), .val (.int (2 : Int32)), .val (.int (1 : Int32)), .val (.int (0 : Int32)), .val (.int v40), .val (.int v41), .val (.int (0 : Int32)), .val (.int v40), .val (.int v41), .val (.int v49), .unset]) rfl ?_
        show Steps p.tables e below (T380.setTop (mkF m 317 #[.val (.long q0), .second, .val (.long q1), .second, .val (.long q2), .second, .val (.long q3), .second, .val (.int p4), .val (.ref b101), .val (.ref b111), .val (.ref b127), .val (.ref b149), .val (.int v5), .val (.int (0 : Int32)), .val (.ref b178), .val (.int (0 : Int32)), .val (.int (1 : Int32)), .val (.int (2 : Int32)), .val (.int (1 : Int32)), .val (.int (0 : Int32)), .val (.int v40), .val (.int v41), .val (.int (0 : Int32)), .val (.int v40), .val (.int v41), .val (.int v49), .unset] [])) _
        refine XS.iload X380.here hx rfl (hb hby at_317) rfl ?_
        refine XS.ifNo X380.here hx rfl (hb hby at_319) rfl ((if0 _ _).trans (feq (by decide : ¬ ((1 : Int32) = (0 : Int32)))).1) ?_
        show Steps p.tables e below (T380.setTop (mkF m 322 #[.val (.long q0), .second, .val (.long q1), .second, .val (.long q2), .second, .val (.long q3), .second, .val (.int p4), .val (.ref b101), .val (.ref b111), .val (.ref b127), .val (.ref b149), .val (.int v5), .val (.int (0 : Int32)), .val (.ref b178), .val (.int (0 : Int32)), .val (.int (1 : Int32)), .val (.int (2 : Int32)), .val (.int (1 : Int32)), .val (.int (0 : Int32)), .val (.int v40), .val (.int v41), .val (.int (0 : Int32)), .val (.int v40), .val (.int v41), .val (.int v49), .unset] [])) _
        refine XS.iload X380.here hx rfl (hb hby at_322) rfl ?_
        refine XS.goto X380.here hx rfl (pc0 := 324) (pc' := 328) rfl (hb hby at_324) (by decide) (by decide) ?_
        show Steps p.tables e below (T380.setTop (mkF m 328 #[.val (.long q0), .second, .val (.long q1), .second, .val (.long q2), .second, .val (.long q3), .second, .val (.int p4), .val (.ref b101), .val (.ref b111), .val (.ref b127), .val (.ref b149), .val (.int v5), .val (.int (0 : Int32)), .val (.ref b178), .val (.int (0 : Int32)), .val (.int (1 : Int32)), .val (.int (2 : Int32)), .val (.int (1 : Int32)), .val (.int (0 : Int32)), .val (.int v40), .val (.int v41), .val (.int (0 : Int32)), .val (.int v40), .val (.int v41), .val (.int v49), .unset] [(.int v5)])) _
        refine XS.istore X380.here hx rfl (hb hby at_328) rfl (l' := #[.val (.long q0), .second, .val (.long q1), .second, .val (.long q2), .second, .val (.long q3), .second, .val (.int p4), .val (.ref b101), .val (.ref b111), .val (.ref b127), .val (.ref b149), .val (.int v5), .val (.int (0 : Int32)), .val (.ref b178), .val (.int (0 : Int32)), .val (.int (1 : Int32)), .val (.int (2 : Int32)), .val (.int (1 : Int32)), .val (.int (0 : Int32)), .val (.int v40), .val (.int v41), .val (.int (0 : Int32)), .val (.int v40), .val (.int v41), .val (.int v49), .val (.int v5)]) rfl ?_
        show Steps p.tables e below (T380.setTop (mkF m 330 #[.val (.long q0), .second, .val (.long q1), .second, .val (.long q2), .second, .val (.long q3), .second, .val (.int p4), .val (.ref b101), .val (.ref b111), .val (.ref b127), .val (.ref b149), .val (.int v5), .val (.int (0 : Int32)), .val (.ref b178), .val (.int (0 : Int32)), .val (.int (1 : Int32)), .val (.int (2 : Int32)), .val (.int (1 : Int32)), .val (.int (0 : Int32)), .val (.int v40), .val (.int v41), .val (.int (0 : Int32)), .val (.int v40), .val (.int v41), .val (.int v49), .val (.int v5)] [])) _
        refine XS.iload X380.here hx rfl (hb hby at_330) rfl ?_
        refine XS.iload X380.here hx rfl (hb hby at_332) rfl ?_
        refine XS.icmpNo X380.here hx rfl (hb hby at_334) rfl (teq (by decide : (0 : Int32) = (0 : Int32))).2 ?_
        show Steps p.tables e below (T380.setTop (mkF m 337 #[.val (.long q0), .second, .val (.long q1), .second, .val (.long q2), .second, .val (.long q3), .second, .val (.int p4), .val (.ref b101), .val (.ref b111), .val (.ref b127), .val (.ref b149), .val (.int v5), .val (.int (0 : Int32)), .val (.ref b178), .val (.int (0 : Int32)), .val (.int (1 : Int32)), .val (.int (2 : Int32)), .val (.int (1 : Int32)), .val (.int (0 : Int32)), .val (.int v40), .val (.int v41), .val (.int (0 : Int32)), .val (.int v40), .val (.int v41), .val (.int v49), .val (.int v5)] [])) _
        refine XS.iload X380.here hx rfl (hb hby at_337) rfl ?_
        refine XS.iload X380.here hx rfl (hb hby at_339) rfl ?_
        refine XS.icmpNo X380.here hx rfl (hb hby at_341) rfl (teq (rfl : v40 = v40)).2 ?_
        show Steps p.tables e below (T380.setTop (mkF m 344 #[.val (.long q0), .second, .val (.long q1), .second, .val (.long q2), .second, .val (.long q3), .second, .val (.int p4), .val (.ref b101), .val (.ref b111), .val (.ref b127), .val (.ref b149), .val (.int v5), .val (.int (0 : Int32)), .val (.ref b178), .val (.int (0 : Int32)), .val (.int (1 : Int32)), .val (.int (2 : Int32)), .val (.int (1 : Int32)), .val (.int (0 : Int32)), .val (.int v40), .val (.int v41), .val (.int (0 : Int32)), .val (.int v40), .val (.int v41), .val (.int v49), .val (.int v5)] [])) _
        refine XS.iload X380.here hx rfl (hb hby at_344) rfl ?_
        refine XS.iload X380.here hx rfl (hb hby at_346) rfl ?_
        refine XS.icmpNo X380.here hx rfl (hb hby at_348) rfl (teq (rfl : v41 = v41)).2 ?_
        show Steps p.tables e below (T380.setTop (mkF m 351 #[.val (.long q0), .second, .val (.long q1), .second, .val (.long q2), .second, .val (.long q3), .second, .val (.int p4), .val (.ref b101), .val (.ref b111), .val (.ref b127), .val (.ref b149), .val (.int v5), .val (.int (0 : Int32)), .val (.ref b178), .val (.int (0 : Int32)), .val (.int (1 : Int32)), .val (.int (2 : Int32)), .val (.int (1 : Int32)), .val (.int (0 : Int32)), .val (.int v40), .val (.int v41), .val (.int (0 : Int32)), .val (.int v40), .val (.int v41), .val (.int v49), .val (.int v5)] [])) _
        refine XS.iload X380.here hx rfl (hb hby at_351) rfl ?_
        refine XS.iload X380.here hx rfl (hb hby at_353) rfl ?_
        refine XS.icmpNo X380.here hx rfl (hb hby at_355) rfl (teq (by rw [hv49, hv39]; rfl)).2 ?_
        show Steps p.tables e below (T380.setTop (mkF m 358 #[.val (.long q0), .second, .val (.long q1), .second, .val (.long q2), .second, .val (.long q3), .second, .val (.int p4), .val (.ref b101), .val (.ref b111), .val (.ref b127), .val (.ref b149), .val (.int v5), .val (.int (0 : Int32)), .val (.ref b178), .val (.int (0 : Int32)), .val (.int (1 : Int32)), .val (.int (2 : Int32)), .val (.int (1 : Int32)), .val (.int (0 : Int32)), .val (.int v40), .val (.int v41), .val (.int (0 : Int32)), .val (.int v40), .val (.int v41), .val (.int v49), .val (.int v5)] [])) _
        refine XS.iconst X380.here hx rfl (hb hby at_358) ?_
        refine XS.goto X380.here hx rfl (pc0 := 359) (pc' := 363) rfl (hb hby at_359) (by decide) (by decide) ?_
        exact kt
      refine own_go hgo397 ?_
      exact own_retZ X380 hx Bd.returns Bd.notSynchronized (hb hby at_363) (by decide) (by decide) (Or.inr (rfl : (1 : Int32) = 1)) ⟨by rw [(rfl : (1 : Int32) = 1)], N380⟩
  by_cases hs172_50 : v6 = (1 : Int32)
  · obtain ⟨cq398, kq398, q398a, q398b, q398c⟩ := isOf hZ (rfl : T252.heap = T252.heap) F252_0
    obtain ⟨_, _, ⟨T398, L398, k398, n398⟩, -, X398, ⟨Lc398, hQ398, l398, y398, z398⟩, st398⟩ := X252.virtualBack hx (y := (⟨"com/example/upper_falls/upperfalls/HeldKeys", "hold", "(Lcom/example/upper_falls/upperfalls/KeyHash;)I"⟩ : MethodName)) (z := (⟨"com/example/upper_falls/upperfalls/HeldKeys", "hold", "(Lcom/example/upper_falls/upperfalls/KeyHash;)I"⟩ : MethodName)) hown (mvT hZ (own_wd hw 71 rfl)) (mvT hZ (own_wd hw 72 rfl)) (notFace_of_selects (args := #[]) (mvT hZ (own_wd hw 74 rfl))) (mvT hZ (own_wd hw 74 rfl)) (mvT hZ (own_wd hw 73 rfl)) (by decide) (backOf (W := 0) (rmhy l Z a0 hw [] b178 b111 b202_0 b202_1 b202_2 b202_3 b202_4 b202_5 v23 v24 v25 v27 v11 v26 v2 (1 : Int64) (3 : Int32) (1 : Int32) 3 (0 : Int32) (1 : Int32) (T252.heap) n0 Z267 F252_0 F252_1 F252_2 F252_3 F252_4 F252_5 F252_6 F252_7 F252_8f F252_9 F252_10n F252_11n F252_12n F252_14n F266 F252_13n F256 F257 F258 ((by rw [hF3]; exact own_V3) : own_V 3 v26) ((own_Mk (t := 1) (by decide) (by decide) rfl rfl G3 (fun _ => P1)) : own_M 3 v23 v24 (1 : Int32) v2 (1 : Int64)) (by decide : 3 ≤ 3) ((by rw [hF3]; exact cg1) : own_fnd v26 (1 : Int32) 8 ((v2.toInt32) &&& (31 : Int32)) = some (1 : Int32)) (by decide : (¬ (1 : Int32) < 0 ∧ (1 : Int32).toNatClampNeg < 16)) (by decide : ¬ ((1 : Int32) = (-1 : Int32))) ne_b178_b202_3 F202_8 F202_12 F202_15 (Ne.symm F202_18) (Ne.symm F202_19) ne_b111_b202_3 g_b202_3) hZ (own_wd hw 75 rfl) (own_wd hw 27 rfl) (by decide) (by decide)) q398a q398c (g := (mkF m 203 #[.val (.long q0), .second, .val (.long q1), .second, .val (.long q2), .second, .val (.long q3), .second, .val (.int p4), .val (.ref b101), .val (.ref b111), .val (.ref b127), .val (.ref b149), .val (.int v5), .val (.int (1 : Int32)), .val (.ref b178), .val (.int (0 : Int32)), .val (.int (1 : Int32)), .val (.int (2 : Int32)), .unset, .unset, .unset, .unset, .unset, .unset, .unset, .unset, .unset] [(.ref b111), (.ref b178)])) rfl (by rw [hml]; rfl) (Steps.refl _) (argsL := [(.ref b111)]) (rest := []) (lenOf pd13 rfl) rfl (by show 2 * 0 + _ ≤ _; exact Nat.le_of_eq rfl) (hb hby at_203) (fun _ _ => ⟨rfl, (rfl : T252.heap = T252.heap), (by decide : 11 + 0 ≤ _), (by decide : 129 + 0 ≤ _)⟩)
    dsimp only [Pt.U, Pt.locs, Pt.cells, Pt.slots] at X398 l398 y398 z398 st398 hQ398
    subst l398 y398 z398
    obtain ⟨rfl, N398q, K398q, F398_0⟩ := hQ398
    have F399 := F253.keep K398q
    have F400 := F254.keep K398q (ninS ne_b101_b202_3 nin0)
    have F401 := F255.keep K398q (ninS ne_b101_b202_3 nin0)
    have F402 := F256.keep K398q
    have F403 := F257.keep K398q (ninS ne_b111_b202_3 nin0)
    have F404 := F258.keep K398q (ninS ne_b111_b202_3 nin0)
    have F405 := F259.keep K398q
    have F406 := F260.keep K398q (ninS ne_b127_b202_3 nin0)
    have F407 := F261.keep K398q (ninS ne_b127_b202_3 nin0)
    have F408 := F262.keep K398q
    have F409 := F263.keep K398q (ninS ne_b149_b202_3 nin0)
    have F410 := F264.keep K398q (ninS ne_b149_b202_3 nin0)
    have F411 := F252_0.keep K398q
    have F412 := F266.keep K398q (ninS (Ne.symm F202_18) nin0)
    have F413 := F252_1.keep K398q (ninS ne_b178_b202_3 nin0)
    have F414 := F252_2.keep K398q (ninS ne_b178_b202_3 nin0)
    have F415 := F252_3.keep K398q (ninS ne_b178_b202_3 nin0)
    have F416 := F252_4.keep K398q (ninS ne_b178_b202_3 nin0)
    have F417 := F252_5.keep K398q (ninS ne_b178_b202_3 nin0)
    have F418 := F252_6.keep K398q (ninS ne_b178_b202_3 nin0)
    have F419 := F252_7.keep K398q (ninS ne_b178_b202_3 nin0)
    have F420 := F252_8f.keep K398q (ninS ne_b178_b202_3 nin0)
    have F421 := F252_9.keep K398q (ninS ne_b178_b202_3 nin0)
    have F422 := F252_10n.keep K398q (ninS F202_8 nin0)
    have F423 := F252_11n.keep K398q (ninS F202_12 nin0)
    have F424 := F252_12n.keep K398q (ninS F202_15 nin0)
    have F425 := F252_13n.keep K398q (ninS (Ne.symm F202_19) nin0)
    have Z426 : n0 ≤ T398.heap.size := Nat.le_trans Z267 K398q.1
    have K427 : Keep h0 T398.heap [] := K268.trans K398q (allS (Or.inr sz_b202_3) all0)
    obtain ⟨v51, hv51⟩ : ∃ z : Nat → Int32, z = (own_up v27 ((1 : Int32).toNatClampNeg) ((v27 (1 : Int32).toNatClampNeg) + (1 : Int32))) := ⟨_, rfl⟩
    have F398_0n : own_AI Z T398.heap b202_3 .int 16 v51 := by rw [hv51]; exact F398_0
    have N398 := Fr.app N252 N398q
    have hgo428 : ∀ t, Steps p.tables e below (T398.setTop (mkF m 207 #[.val (.long q0), .second, .val (.long q1), .second, .val (.long q2), .second, .val (.long q3), .second, .val (.int p4), .val (.ref b101), .val (.ref b111), .val (.ref b127), .val (.ref b149), .val (.int v5), .val (.int (1 : Int32)), .val (.ref b178), .val (.int (0 : Int32)), .val (.int (1 : Int32)), .val (.int (2 : Int32)), .unset, .unset, .unset, .unset, .unset, .unset, .unset, .unset, .unset] [])) t → Steps p.tables e below (T252.setTop (mkF m 172 #[.val (.long q0), .second, .val (.long q1), .second, .val (.long q2), .second, .val (.long q3), .second, .val (.int p4), .val (.ref b101), .val (.ref b111), .val (.ref b127), .val (.ref b149), .val (.int v5), .val (.int v6), .val (.ref b178), .val (.int (0 : Int32)), .val (.int (1 : Int32)), .val (.int (2 : Int32)), .unset, .unset, .unset, .unset, .unset, .unset, .unset, .unset, .unset] [])) t := by
      intro t kt
      show Steps p.tables e below (T252.setTop (mkF m 172 #[.val (.long q0), .second, .val (.long q1), .second, .val (.long q2), .second, .val (.long q3), .second, .val (.int p4), .val (.ref b101), .val (.ref b111), .val (.ref b127), .val (.ref b149), .val (.int v5), .val (.int v6), .val (.ref b178), .val (.int (0 : Int32)), .val (.int (1 : Int32)), .val (.int (2 : Int32)), .unset, .unset, .unset, .unset, .unset, .unset, .unset, .unset, .unset] [])) _
      rw [hs172_50]
      show Steps p.tables e below (T252.setTop (mkF m 172 #[.val (.long q0), .second, .val (.long q1), .second, .val (.long q2), .second, .val (.long q3), .second, .val (.int p4), .val (.ref b101), .val (.ref b111), .val (.ref b127), .val (.ref b149), .val (.int v5), .val (.int (1 : Int32)), .val (.ref b178), .val (.int (0 : Int32)), .val (.int (1 : Int32)), .val (.int (2 : Int32)), .unset, .unset, .unset, .unset, .unset, .unset, .unset, .unset, .unset] [])) _
      refine XS.iload X252.here hx rfl (hb hby at_172) rfl ?_
      refine XS.iconst X252.here hx rfl (hb hby at_174) ?_
      refine XS.icmpNo X252.here hx rfl (hb hby at_175) rfl (tlt (by decide : (1 : Int32) < (3 : Int32))).2.1 ?_
      show Steps p.tables e below (T252.setTop (mkF m 178 #[.val (.long q0), .second, .val (.long q1), .second, .val (.long q2), .second, .val (.long q3), .second, .val (.int p4), .val (.ref b101), .val (.ref b111), .val (.ref b127), .val (.ref b149), .val (.int v5), .val (.int (1 : Int32)), .val (.ref b178), .val (.int (0 : Int32)), .val (.int (1 : Int32)), .val (.int (2 : Int32)), .unset, .unset, .unset, .unset, .unset, .unset, .unset, .unset, .unset] [])) _
      refine XS.aload X252.here hx rfl (hb hby at_178) rfl rfl ?_
      refine XS.iload X252.here hx rfl (hb hby at_180) rfl ?_
      refine XS.ifYes X252.here hx rfl (pc0 := 182) (pc' := 190) rfl (hb hby at_182) rfl ((if0 _ _).trans (feq (by decide : ¬ ((1 : Int32) = (0 : Int32)))).2) (by decide) (by decide) ?_
      show Steps p.tables e below (T252.setTop (mkF m 190 #[.val (.long q0), .second, .val (.long q1), .second, .val (.long q2), .second, .val (.long q3), .second, .val (.int p4), .val (.ref b101), .val (.ref b111), .val (.ref b127), .val (.ref b149), .val (.int v5), .val (.int (1 : Int32)), .val (.ref b178), .val (.int (0 : Int32)), .val (.int (1 : Int32)), .val (.int (2 : Int32)), .unset, .unset, .unset, .unset, .unset, .unset, .unset, .unset, .unset] [(.ref b178)])) _
      refine XS.iload X252.here hx rfl (hb hby at_190) rfl ?_
      refine XS.iconst X252.here hx rfl (hb hby at_192) ?_
      refine XS.icmpNo X252.here hx rfl (hb hby at_193) rfl (teq (by decide : (1 : Int32) = (1 : Int32))).2 ?_
      show Steps p.tables e below (T252.setTop (mkF m 196 #[.val (.long q0), .second, .val (.long q1), .second, .val (.long q2), .second, .val (.long q3), .second, .val (.int p4), .val (.ref b101), .val (.ref b111), .val (.ref b127), .val (.ref b149), .val (.int v5), .val (.int (1 : Int32)), .val (.ref b178), .val (.int (0 : Int32)), .val (.int (1 : Int32)), .val (.int (2 : Int32)), .unset, .unset, .unset, .unset, .unset, .unset, .unset, .unset, .unset] [(.ref b178)])) _
      refine XS.aload X252.here hx rfl (hb hby at_196) rfl rfl ?_
      refine XS.goto X252.here hx rfl (pc0 := 198) (pc' := 203) rfl (hb hby at_198) (by decide) (by decide) ?_
      show Steps p.tables e below (T252.setTop (mkF m 203 #[.val (.long q0), .second, .val (.long q1), .second, .val (.long q2), .second, .val (.long q3), .second, .val (.int p4), .val (.ref b101), .val (.ref b111), .val (.ref b127), .val (.ref b149), .val (.int v5), .val (.int (1 : Int32)), .val (.ref b178), .val (.int (0 : Int32)), .val (.int (1 : Int32)), .val (.int (2 : Int32)), .unset, .unset, .unset, .unset, .unset, .unset, .unset, .unset, .unset] [(.ref b111), (.ref b178)])) _
      refine st398.trans ?_
      show Steps p.tables e below (T398.setTop (mkF m 206 #[.val (.long q0), .second, .val (.long q1), .second, .val (.long q2), .second, .val (.long q3), .second, .val (.int p4), .val (.ref b101), .val (.ref b111), .val (.ref b127), .val (.ref b149), .val (.int v5), .val (.int (1 : Int32)), .val (.ref b178), .val (.int (0 : Int32)), .val (.int (1 : Int32)), .val (.int (2 : Int32)), .unset, .unset, .unset, .unset, .unset, .unset, .unset, .unset, .unset] [(.int (1 : Int32))])) _
      refine XS.pop X398.here hx rfl (hb hby at_206) rfl rfl ?_
      exact kt
    refine own_go hgo428 ?_
    by_cases hs207_52 : v5 = (1 : Int32)
    · obtain ⟨cq429, kq429, q429a, q429b, q429c⟩ := isOf hZ (rfl : T398.heap = T398.heap) F411
      obtain ⟨_, _, ⟨T429, L429, k429, n429⟩, -, X429, ⟨Lc429, hQ429, l429, y429, z429⟩, st429⟩ := X398.virtualBack hx (y := (⟨"com/example/upper_falls/upperfalls/HeldKeys", "release", "(I)V"⟩ : MethodName)) (z := (⟨"com/example/upper_falls/upperfalls/HeldKeys", "release", "(I)V"⟩ : MethodName)) hown (mvT hZ (own_wd hw 103 rfl)) (mvT hZ (own_wd hw 104 rfl)) (notFace_of_selects (args := #[]) (mvT hZ (own_wd hw 106 rfl))) (mvT hZ (own_wd hw 106 rfl)) (mvT hZ (own_wd hw 105 rfl)) (by decide) (backOf (W := 0) (rmrk l Z a0 hw [] b178 (1 : Int32) b202_0 b202_1 b202_2 b202_3 b202_4 b202_5 v23 v24 v25 v51 v11 v26 (3 : Int32) (0 : Int32) (T398.heap) n0 Z426 F411 F413 F414 F415 F416 F417 F418 F419 F420 F421 F422 F423 F424 F398_0n F412 F425 (by decide : (¬ (1 : Int32) < 0 ∧ (1 : Int32).toNatClampNeg < 16)) ((by rw [hv51, hv27, hv22, hv17, hv10]; decide) : ¬ (((v51 (1 : Int32).toNatClampNeg) - (1 : Int32)) = (0 : Int32))) ne_b178_b202_3 F202_8 F202_12 F202_15 (Ne.symm F202_18) (Ne.symm F202_19) g_b202_3) hZ (own_wd hw 107 rfl) (own_wd hw 27 rfl) (by decide) (by decide)) q429a q429c (g := (mkF m 211 #[.val (.long q0), .second, .val (.long q1), .second, .val (.long q2), .second, .val (.long q3), .second, .val (.int p4), .val (.ref b101), .val (.ref b111), .val (.ref b127), .val (.ref b149), .val (.int (1 : Int32)), .val (.int (1 : Int32)), .val (.ref b178), .val (.int (0 : Int32)), .val (.int (1 : Int32)), .val (.int (2 : Int32)), .unset, .unset, .unset, .unset, .unset, .unset, .unset, .unset, .unset] [(.int (1 : Int32)), (.ref b178)])) rfl (by rw [hml]; rfl) (Steps.refl _) (argsL := [(.int (1 : Int32))]) (rest := []) (lenOf pd14 rfl) rfl (by show 2 * 0 + _ ≤ _; exact Nat.le_of_eq rfl) (hb hby at_211) (fun _ _ => ⟨rfl, (rfl : T398.heap = T398.heap), (by decide : 11 + 0 ≤ _), (by decide : 129 + 0 ≤ _)⟩)
      dsimp only [Pt.U, Pt.locs, Pt.cells, Pt.slots] at X429 l429 y429 z429 st429 hQ429
      subst l429 y429 z429
      obtain ⟨rfl, N429q, K429q, F429_0⟩ := hQ429
      have F430 := F399.keep K429q
      have F431 := F400.keep K429q (ninS ne_b101_b202_3 nin0)
      have F432 := F401.keep K429q (ninS ne_b101_b202_3 nin0)
      have F433 := F402.keep K429q
      have F434 := F403.keep K429q (ninS ne_b111_b202_3 nin0)
      have F435 := F404.keep K429q (ninS ne_b111_b202_3 nin0)
      have F436 := F405.keep K429q
      have F437 := F406.keep K429q (ninS ne_b127_b202_3 nin0)
      have F438 := F407.keep K429q (ninS ne_b127_b202_3 nin0)
      have F439 := F408.keep K429q
      have F440 := F409.keep K429q (ninS ne_b149_b202_3 nin0)
      have F441 := F410.keep K429q (ninS ne_b149_b202_3 nin0)
      have F442 := F411.keep K429q
      have F443 := F412.keep K429q (ninS (Ne.symm F202_18) nin0)
      have F444 := F413.keep K429q (ninS ne_b178_b202_3 nin0)
      have F445 := F414.keep K429q (ninS ne_b178_b202_3 nin0)
      have F446 := F415.keep K429q (ninS ne_b178_b202_3 nin0)
      have F447 := F416.keep K429q (ninS ne_b178_b202_3 nin0)
      have F448 := F417.keep K429q (ninS ne_b178_b202_3 nin0)
      have F449 := F418.keep K429q (ninS ne_b178_b202_3 nin0)
      have F450 := F419.keep K429q (ninS ne_b178_b202_3 nin0)
      have F451 := F420.keep K429q (ninS ne_b178_b202_3 nin0)
      have F452 := F421.keep K429q (ninS ne_b178_b202_3 nin0)
      have F453 := F422.keep K429q (ninS F202_8 nin0)
      have F454 := F423.keep K429q (ninS F202_12 nin0)
      have F455 := F424.keep K429q (ninS F202_15 nin0)
      have F456 := F425.keep K429q (ninS (Ne.symm F202_19) nin0)
      have Z457 : n0 ≤ T429.heap.size := Nat.le_trans Z426 K429q.1
      have K458 : Keep h0 T429.heap [] := K427.trans K429q (allS (Or.inr sz_b202_3) all0)
      obtain ⟨v53, hv53⟩ : ∃ z : Nat → Int32, z = (own_up v51 ((1 : Int32).toNatClampNeg) ((v51 (1 : Int32).toNatClampNeg) - (1 : Int32))) := ⟨_, rfl⟩
      have F429_0n : own_AI Z T429.heap b202_3 .int 16 v53 := by rw [hv53]; exact F429_0
      have N429 := Fr.app N398 N429q
      obtain ⟨cq459, kq459, q459a, q459b, q459c⟩ := isOf hZ (rfl : T429.heap = T429.heap) F442
      obtain ⟨_, _, ⟨T459, L459, k459, n459⟩, -, X459, ⟨Lc459, hQ459, l459, y459, z459⟩, st459⟩ := X429.virtualBack hx (y := (⟨"com/example/upper_falls/upperfalls/HeldKeys", "find", "(Lcom/example/upper_falls/upperfalls/KeyHash;)I"⟩ : MethodName)) (z := (⟨"com/example/upper_falls/upperfalls/HeldKeys", "find", "(Lcom/example/upper_falls/upperfalls/KeyHash;)I"⟩ : MethodName)) hown (mvT hZ (own_wd hw 108 rfl)) (mvT hZ (own_wd hw 77 rfl)) (notFace_of_selects (args := #[]) (mvT hZ (own_wd hw 79 rfl))) (mvT hZ (own_wd hw 79 rfl)) (mvT hZ (own_wd hw 78 rfl)) (by decide) (backOf (W := 0) (rmfd l Z a0 hw [] b178 b101 b202_5 b202_0 b202_1 v26 v23 v24 v1 (0 : Int64) (0 : Int32) 3 (0 : Int32) (T429.heap) n0 Z457 F442 F449 F444 F445 F456 F453 F454 F430 F431 F432 ((by rw [hF3]; exact own_V3) : own_V 3 v26) ((own_Mk (t := 0) (by decide) (by decide) rfl rfl G3 (fun _ => P0)) : own_M 3 v23 v24 (0 : Int32) v1 (0 : Int64)) (by decide : 3 ≤ 3) ((by rw [hF3]; exact cg0) : own_fnd v26 (0 : Int32) 8 ((v1.toInt32) &&& (31 : Int32)) = some (0 : Int32))) hZ (own_wd hw 80 rfl) (own_wd hw 27 rfl) (by decide) (by decide)) q459a q459c (g := (mkF m 232 #[.val (.long q0), .second, .val (.long q1), .second, .val (.long q2), .second, .val (.long q3), .second, .val (.int p4), .val (.ref b101), .val (.ref b111), .val (.ref b127), .val (.ref b149), .val (.int (1 : Int32)), .val (.int (1 : Int32)), .val (.ref b178), .val (.int (0 : Int32)), .val (.int (1 : Int32)), .val (.int (2 : Int32)), .val (.int (0 : Int32)), .unset, .unset, .unset, .unset, .unset, .unset, .unset, .unset] [(.ref b101), (.ref b178)])) rfl (by rw [hml]; rfl) (Steps.refl _) (argsL := [(.ref b101)]) (rest := []) (lenOf pd13 rfl) rfl (by show 2 * 0 + _ ≤ _; exact Nat.le_of_eq rfl) (hb hby at_232) (fun _ _ => ⟨rfl, (rfl : T429.heap = T429.heap), (by decide : 11 + 0 ≤ _), (by decide : 129 + 0 ≤ _)⟩)
      dsimp only [Pt.U, Pt.locs, Pt.cells, Pt.slots] at X459 l459 y459 z459 st459 hQ459
      subst l459 y459 z459
      obtain ⟨rfl, N459q, e459⟩ := hQ459
      have N459 := Fr.app N429 N459q
      obtain ⟨cq460, kq460, q460a, q460b, q460c⟩ := isOf hZ e459 F442
      obtain ⟨_, _, ⟨T460, L460, k460, n460⟩, -, X460, ⟨Lc460, hQ460, l460, y460, z460⟩, st460⟩ := X459.virtualBack hx (y := (⟨"com/example/upper_falls/upperfalls/HeldKeys", "find", "(Lcom/example/upper_falls/upperfalls/KeyHash;)I"⟩ : MethodName)) (z := (⟨"com/example/upper_falls/upperfalls/HeldKeys", "find", "(Lcom/example/upper_falls/upperfalls/KeyHash;)I"⟩ : MethodName)) hown (mvT hZ (own_wd hw 108 rfl)) (mvT hZ (own_wd hw 77 rfl)) (notFace_of_selects (args := #[]) (mvT hZ (own_wd hw 79 rfl))) (mvT hZ (own_wd hw 79 rfl)) (mvT hZ (own_wd hw 78 rfl)) (by decide) (backOf (W := 0) (rmfd l Z a0 hw [] b178 b111 b202_5 b202_0 b202_1 v26 v23 v24 v2 (1 : Int64) (1 : Int32) 3 (1 : Int32) (T429.heap) n0 Z457 F442 F449 F444 F445 F456 F453 F454 F433 F434 F435 ((by rw [hF3]; exact own_V3) : own_V 3 v26) ((own_Mk (t := 1) (by decide) (by decide) rfl rfl G3 (fun _ => P1)) : own_M 3 v23 v24 (1 : Int32) v2 (1 : Int64)) (by decide : 3 ≤ 3) ((by rw [hF3]; exact cg1) : own_fnd v26 (1 : Int32) 8 ((v2.toInt32) &&& (31 : Int32)) = some (1 : Int32))) hZ (own_wd hw 80 rfl) (own_wd hw 27 rfl) (by decide) (by decide)) q460a q460c (g := (mkF m 241 #[.val (.long q0), .second, .val (.long q1), .second, .val (.long q2), .second, .val (.long q3), .second, .val (.int p4), .val (.ref b101), .val (.ref b111), .val (.ref b127), .val (.ref b149), .val (.int (1 : Int32)), .val (.int (1 : Int32)), .val (.ref b178), .val (.int (0 : Int32)), .val (.int (1 : Int32)), .val (.int (2 : Int32)), .val (.int (0 : Int32)), .val (.int (0 : Int32)), .unset, .unset, .unset, .unset, .unset, .unset, .unset] [(.ref b111), (.ref b178)])) rfl (by rw [hml]; rfl) (Steps.refl _) (argsL := [(.ref b111)]) (rest := []) (lenOf pd13 rfl) rfl (by show 2 * 0 + _ ≤ _; exact Nat.le_of_eq rfl) (hb hby at_241) (fun _ _ => ⟨rfl, e459, (by decide : 11 + 0 ≤ _), (by decide : 129 + 0 ≤ _)⟩)
      dsimp only [Pt.U, Pt.locs, Pt.cells, Pt.slots] at X460 l460 y460 z460 st460 hQ460
      subst l460 y460 z460
      obtain ⟨rfl, N460q, e460⟩ := hQ460
      have N460 := Fr.app N459 N460q
      obtain ⟨cq461, kq461, q461a, q461b, q461c⟩ := isOf hZ e460 F442
      obtain ⟨_, _, ⟨T461, L461, k461, n461⟩, -, X461, ⟨Lc461, hQ461, l461, y461, z461⟩, st461⟩ := X460.virtualBack hx (y := (⟨"com/example/upper_falls/upperfalls/HeldKeys", "find", "(Lcom/example/upper_falls/upperfalls/KeyHash;)I"⟩ : MethodName)) (z := (⟨"com/example/upper_falls/upperfalls/HeldKeys", "find", "(Lcom/example/upper_falls/upperfalls/KeyHash;)I"⟩ : MethodName)) hown (mvT hZ (own_wd hw 108 rfl)) (mvT hZ (own_wd hw 77 rfl)) (notFace_of_selects (args := #[]) (mvT hZ (own_wd hw 79 rfl))) (mvT hZ (own_wd hw 79 rfl)) (mvT hZ (own_wd hw 78 rfl)) (by decide) (backOf (W := 0) (rmfd l Z a0 hw [] b178 b127 b202_5 b202_0 b202_1 v26 v23 v24 v3 (2 : Int64) (2 : Int32) 3 (2 : Int32) (T429.heap) n0 Z457 F442 F449 F444 F445 F456 F453 F454 F436 F437 F438 ((by rw [hF3]; exact own_V3) : own_V 3 v26) ((own_Mk (t := 2) (by decide) (by decide) rfl rfl G3 (fun _ => P2)) : own_M 3 v23 v24 (2 : Int32) v3 (2 : Int64)) (by decide : 3 ≤ 3) ((by rw [hF3]; exact cg2) : own_fnd v26 (2 : Int32) 8 ((v3.toInt32) &&& (31 : Int32)) = some (2 : Int32))) hZ (own_wd hw 80 rfl) (own_wd hw 27 rfl) (by decide) (by decide)) q461a q461c (g := (mkF m 250 #[.val (.long q0), .second, .val (.long q1), .second, .val (.long q2), .second, .val (.long q3), .second, .val (.int p4), .val (.ref b101), .val (.ref b111), .val (.ref b127), .val (.ref b149), .val (.int (1 : Int32)), .val (.int (1 : Int32)), .val (.ref b178), .val (.int (0 : Int32)), .val (.int (1 : Int32)), .val (.int (2 : Int32)), .val (.int (0 : Int32)), .val (.int (0 : Int32)), .val (.int (1 : Int32)), .unset, .unset, .unset, .unset, .unset, .unset] [(.ref b127), (.ref b178)])) rfl (by rw [hml]; rfl) (Steps.refl _) (argsL := [(.ref b127)]) (rest := []) (lenOf pd13 rfl) rfl (by show 2 * 0 + _ ≤ _; exact Nat.le_of_eq rfl) (hb hby at_250) (fun _ _ => ⟨rfl, e460, (by decide : 11 + 0 ≤ _), (by decide : 129 + 0 ≤ _)⟩)
      dsimp only [Pt.U, Pt.locs, Pt.cells, Pt.slots] at X461 l461 y461 z461 st461 hQ461
      subst l461 y461 z461
      obtain ⟨rfl, N461q, e461⟩ := hQ461
      have N461 := Fr.app N460 N461q
      obtain ⟨cq462, kq462, q462a, q462b, q462c⟩ := isOf hZ e461 F442
      obtain ⟨_, _, ⟨T462, L462, k462, n462⟩, -, X462, ⟨Lc462, hQ462, l462, y462, z462⟩, st462⟩ := X461.virtualBack hx (y := (⟨"com/example/upper_falls/upperfalls/HeldKeys", "hold", "(Lcom/example/upper_falls/upperfalls/KeyHash;)I"⟩ : MethodName)) (z := (⟨"com/example/upper_falls/upperfalls/HeldKeys", "hold", "(Lcom/example/upper_falls/upperfalls/KeyHash;)I"⟩ : MethodName)) hown (mvT hZ (own_wd hw 71 rfl)) (mvT hZ (own_wd hw 72 rfl)) (notFace_of_selects (args := #[]) (mvT hZ (own_wd hw 74 rfl))) (mvT hZ (own_wd hw 74 rfl)) (mvT hZ (own_wd hw 73 rfl)) (by decide) (backOf (W := 0) (rmhn l Z a0 hw [] b178 b149 b202_0 b202_1 b202_2 b202_3 b202_4 b202_5 v23 v24 v25 v53 v11 v26 v4 (3 : Int64) (3 : Int32) (3 : Int32) 3 (own_E (own_F3 ((v1.toInt32) &&& (31 : Int32)) ((v2.toInt32) &&& (31 : Int32)) ((v3.toInt32) &&& (31 : Int32))) ((v4.toInt32) &&& (31 : Int32))) (T429.heap) n0 Z457 F442 F444 F445 F446 F447 F448 F449 F450 F451 F452 F453 F454 F455 F429_0n F443 F456 F439 F440 F441 ((by rw [hF3]; exact own_V3) : own_V 3 v26) ((own_Mk (t := 3) (by decide) (by decide) rfl rfl G3 (fun q => absurd q (by decide))) : own_M 3 v23 v24 (3 : Int32) v4 (3 : Int64)) (by decide : 3 ≤ 3) ((by rw [hF3]; exact cf3) : own_fnd v26 (3 : Int32) 8 ((v4.toInt32) &&& (31 : Int32)) = some (-1 : Int32)) (by decide : (¬ (3 : Int32) < 0 ∧ (3 : Int32).toNatClampNeg < 16)) ((by rw [hF3]; exact ce3) : own_emp v26 8 ((v4.toInt32) &&& (31 : Int32)) = some (own_E (own_F3 ((v1.toInt32) &&& (31 : Int32)) ((v2.toInt32) &&& (31 : Int32)) ((v3.toInt32) &&& (31 : Int32))) ((v4.toInt32) &&& (31 : Int32)))) (Ne.symm ne_b178_b202_0) (Ne.symm ne_b178_b202_1) (Ne.symm ne_b178_b202_2) (Ne.symm ne_b178_b202_3) (Ne.symm ne_b178_b202_4) (Ne.symm ne_b178_b202_5) ne_b149_b178 g_b178 ne_b178_b202_0 (Ne.symm F202_6) (Ne.symm F202_7) (Ne.symm F202_8) (Ne.symm F202_9) (Ne.symm F202_10) ne_b149_b202_0 g_b202_0 ne_b178_b202_1 (Ne.symm F202_11) (Ne.symm F202_12) (Ne.symm F202_13) (Ne.symm F202_14) ne_b149_b202_1 F202_6 g_b202_1 ne_b178_b202_2 (Ne.symm F202_15) (Ne.symm F202_16) (Ne.symm F202_17) ne_b149_b202_2 F202_7 F202_11 g_b202_2 ne_b178_b202_5 F202_19 F202_20 ne_b149_b202_5 F202_10 F202_14 F202_17 g_b202_5 ne_b178_b202_3 (Ne.symm F202_18) ne_b149_b202_3 F202_8 F202_12 F202_15 (Ne.symm F202_19) g_b202_3) hZ (own_wd hw 75 rfl) (own_wd hw 27 rfl) (by decide) (by decide)) q462a q462c (g := (mkF m 312 #[.val (.long q0), .second, .val (.long q1), .second, .val (.long q2), .second, .val (.long q3), .second, .val (.int p4), .val (.ref b101), .val (.ref b111), .val (.ref b127), .val (.ref b149), .val (.int (1 : Int32)), .val (.int (1 : Int32)), .val (.ref b178), .val (.int (0 : Int32)), .val (.int (1 : Int32)), .val (.int (2 : Int32)), .val (.int (0 : Int32)), .val (.int (0 : Int32)), .val (.int (1 : Int32)), .val (.int (2 : Int32)), .val (.int (0 : Int32)), .val (.int (1 : Int32)), .val (.int (2 : Int32)), .unset, .unset] [(.ref b149), (.ref b178)])) rfl (by rw [hml]; rfl) (Steps.refl _) (argsL := [(.ref b149)]) (rest := []) (lenOf pd13 rfl) rfl (by show 2 * 0 + _ ≤ _; exact Nat.le_of_eq rfl) (hb hby at_312) (fun _ _ => ⟨rfl, e461, (by decide : 11 + 0 ≤ _), (by decide : 129 + 0 ≤ _)⟩)
      dsimp only [Pt.U, Pt.locs, Pt.cells, Pt.slots] at X462 l462 y462 z462 st462 hQ462
      subst l462 y462 z462
      obtain ⟨rfl, N462q, K462q, F462_0, F462_1, F462_2, F462_3, F462_4, F462_5, F462_6, F462_7, F462_8, F462_9, F462_10, F462_11, F462_12, F462_13, F462_14⟩ := hQ462
      have F463 := F430.keep K462q
      have F464 := F431.keep K462q (ninS ne_b101_b178 (ninS ne_b101_b202_0 (ninS ne_b101_b202_1 (ninS ne_b101_b202_2 (ninS ne_b101_b202_5 (ninS ne_b101_b202_3 nin0))))))
      have F465 := F432.keep K462q (ninS ne_b101_b178 (ninS ne_b101_b202_0 (ninS ne_b101_b202_1 (ninS ne_b101_b202_2 (ninS ne_b101_b202_5 (ninS ne_b101_b202_3 nin0))))))
      have F466 := F433.keep K462q
      have F467 := F434.keep K462q (ninS ne_b111_b178 (ninS ne_b111_b202_0 (ninS ne_b111_b202_1 (ninS ne_b111_b202_2 (ninS ne_b111_b202_5 (ninS ne_b111_b202_3 nin0))))))
      have F468 := F435.keep K462q (ninS ne_b111_b178 (ninS ne_b111_b202_0 (ninS ne_b111_b202_1 (ninS ne_b111_b202_2 (ninS ne_b111_b202_5 (ninS ne_b111_b202_3 nin0))))))
      have F469 := F436.keep K462q
      have F470 := F437.keep K462q (ninS ne_b127_b178 (ninS ne_b127_b202_0 (ninS ne_b127_b202_1 (ninS ne_b127_b202_2 (ninS ne_b127_b202_5 (ninS ne_b127_b202_3 nin0))))))
      have F471 := F438.keep K462q (ninS ne_b127_b178 (ninS ne_b127_b202_0 (ninS ne_b127_b202_1 (ninS ne_b127_b202_2 (ninS ne_b127_b202_5 (ninS ne_b127_b202_3 nin0))))))
      have F472 := F439.keep K462q
      have F473 := F440.keep K462q (ninS ne_b149_b178 (ninS ne_b149_b202_0 (ninS ne_b149_b202_1 (ninS ne_b149_b202_2 (ninS ne_b149_b202_5 (ninS ne_b149_b202_3 nin0))))))
      have F474 := F441.keep K462q (ninS ne_b149_b178 (ninS ne_b149_b202_0 (ninS ne_b149_b202_1 (ninS ne_b149_b202_2 (ninS ne_b149_b202_5 (ninS ne_b149_b202_3 nin0))))))
      have F475 := F442.keep K462q
      have F476 := F443.keep K462q (ninS (Ne.symm ne_b178_b202_4) (ninS (Ne.symm F202_9) (ninS (Ne.symm F202_13) (ninS (Ne.symm F202_16) (ninS F202_20 (ninS (Ne.symm F202_18) nin0))))))
      have Z477 : n0 ≤ T462.heap.size := Nat.le_trans Z457 K462q.1
      have K478 : Keep h0 T462.heap [] := K458.trans K462q (allS (Or.inr sz_b178) (allS (Or.inr sz_b202_0) (allS (Or.inr sz_b202_1) (allS (Or.inr sz_b202_2) (allS (Or.inr sz_b202_5) (allS (Or.inr sz_b202_3) all0))))))
      have F462_8f : Fld Z T462.heap b178 "com/example/upper_falls/upperfalls/HeldKeys" "used" "I" (.int (4 : Int32)) := F462_8
      obtain ⟨v54, hv54⟩ : ∃ z : Nat → Int64, z = (own_up v23 ((3 : Int32).toNatClampNeg) v4) := ⟨_, rfl⟩
      have F462_10n : own_AJ Z T462.heap b202_0 .long 16 v54 := by rw [hv54]; exact F462_10
      obtain ⟨v55, hv55⟩ : ∃ z : Nat → Int64, z = (own_up v24 ((3 : Int32).toNatClampNeg) (3 : Int64)) := ⟨_, rfl⟩
      have F462_11n : own_AJ Z T462.heap b202_1 .long 16 v55 := by rw [hv55]; exact F462_11
      obtain ⟨v56, hv56⟩ : ∃ z : Nat → Int64, z = (own_up v25 ((3 : Int32).toNatClampNeg) (0 : Int64)) := ⟨_, rfl⟩
      have F462_12n : own_AJ Z T462.heap b202_2 .long 16 v56 := by rw [hv56]; exact F462_12
      obtain ⟨v57, hv57⟩ : ∃ z : Nat → Int32, z = (own_up v26 ((own_E (own_F3 ((v1.toInt32) &&& (31 : Int32)) ((v2.toInt32) &&& (31 : Int32)) ((v3.toInt32) &&& (31 : Int32))) ((v4.toInt32) &&& (31 : Int32))).toNatClampNeg) (3 : Int32)) := ⟨_, rfl⟩
      have F462_13n : own_AI Z T462.heap b202_5 .int 32 v57 := by rw [hv57]; exact F462_13
      obtain ⟨v58, hv58⟩ : ∃ z : Nat → Int32, z = (own_up v53 ((3 : Int32).toNatClampNeg) ((v53 (3 : Int32).toNatClampNeg) + (1 : Int32))) := ⟨_, rfl⟩
      have F462_14n : own_AI Z T462.heap b202_3 .int 16 v58 := by rw [hv58]; exact F462_14
      have N462 := Fr.app N461 N462q
      have hgo479 : ∀ t, Steps p.tables e below (T462.setTop (mkF m 363 #[.val (.long q0), .second, .val (.long q1), .second, .val (.long q2), .second, .val (.long q3), .second, .val (.int p4), .val (.ref b101), .val (.ref b111), .val (.ref b127), .val (.ref b149), .val (.int (1 : Int32)), .val (.int (1 : Int32)), .val (.ref b178), .val (.int (0 : Int32)), .val (.int (1 : Int32)), .val (.int (2 : Int32)), .val (.int (0 : Int32)), .val (.int (0 : Int32)), .val (.int (1 : Int32)), .val (.int (2 : Int32)), .val (.int (0 : Int32)), .val (.int (1 : Int32)), .val (.int (2 : Int32)), .val (.int (3 : Int32)), .val (.int (3 : Int32))] [(.int (1 : Int32))])) t → Steps p.tables e below (T398.setTop (mkF m 207 #[.val (.long q0), .second, .val (.long q1), .second, .val (.long q2), .second, .val (.long q3), .second, .val (.int p4), .val (.ref b101), .val (.ref b111), .val (.ref b127), .val (.ref b149), .val (.int v5), .val (.int (1 : Int32)), .val (.ref b178), .val (.int (0 : Int32)), .val (.int (1 : Int32)), .val (.int (2 : Int32)), .unset, .unset, .unset, .unset, .unset, .unset, .unset, .unset, .unset] [])) t := by
        intro t kt
        show Steps p.tables e below (T398.setTop (mkF m 207 #[.val (.long q0), .second, .val (.long q1), .second, .val (.long q2), .second, .val (.long q3), .second, .val (.int p4), .val (.ref b101), .val (.ref b111), .val (.ref b127), .val (.ref b149), .val (.int v5), .val (.int (1 : Int32)), .val (.ref b178), .val (.int (0 : Int32)), .val (.int (1 : Int32)), .val (.int (2 : Int32)), .unset, .unset, .unset, .unset, .unset, .unset, .unset, .unset, .unset] [])) _
        rw [hs207_52]
        show Steps p.tables e below (T398.setTop (mkF m 207 #[.val (.long q0), .second, .val (.long q1), .second, .val (.long q2), .second, .val (.long q3), .second, .val (.int p4), .val (.ref b101), .val (.ref b111), .val (.ref b127), .val (.ref b149), .val (.int (1 : Int32)), .val (.int (1 : Int32)), .val (.ref b178), .val (.int (0 : Int32)), .val (.int (1 : Int32)), .val (.int (2 : Int32)), .unset, .unset, .unset, .unset, .unset, .unset, .unset, .unset, .unset] [])) _
        refine XS.aload X398.here hx rfl (hb hby at_207) rfl rfl ?_
        refine XS.iload X398.here hx rfl (hb hby at_209) rfl ?_
        show Steps p.tables e below (T398.setTop (mkF m 211 #[.val (.long q0), .second, .val (.long q1), .second, .val (.long q2), .second, .val (.long q3), .second, .val (.int p4), .val (.ref b101), .val (.ref b111), .val (.ref b127), .val (.ref b149), .val (.int (1 : Int32)), .val (.int (1 : Int32)), .val (.ref b178), .val (.int (0 : Int32)), .val (.int (1 : Int32)), .val (.int (2 : Int32)), .unset, .unset, .unset, .unset, .unset, .unset, .unset, .unset, .unset] [(.int (1 : Int32)), (.ref b178)])) _
        refine st429.trans ?_
        show Steps p.tables e below (T429.setTop (mkF m 214 #[.val (.long q0), .second, .val (.long q1), .second, .val (.long q2), .second, .val (.long q3), .second, .val (.int p4), .val (.ref b101), .val (.ref b111), .val (.ref b127), .val (.ref b149), .val (.int (1 : Int32)), .val (.int (1 : Int32)), .val (.ref b178), .val (.int (0 : Int32)), .val (.int (1 : Int32)), .val (.int (2 : Int32)), .unset, .unset, .unset, .unset, .unset, .unset, .unset, .unset, .unset] [])) _
        refine XS.iload X429.here hx rfl (hb hby at_214) rfl ?_
        refine XS.iload X429.here hx rfl (hb hby at_216) rfl ?_
        refine XS.icmpYes X429.here hx rfl (pc0 := 218) (pc' := 225) rfl (hb hby at_218) rfl (teq (by decide : (1 : Int32) = (1 : Int32))).1 (by decide) (by decide) ?_
        show Steps p.tables e below (T429.setTop (mkF m 225 #[.val (.long q0), .second, .val (.long q1), .second, .val (.long q2), .second, .val (.long q3), .second, .val (.int p4), .val (.ref b101), .val (.ref b111), .val (.ref b127), .val (.ref b149), .val (.int (1 : Int32)), .val (.int (1 : Int32)), .val (.ref b178), .val (.int (0 : Int32)), .val (.int (1 : Int32)), .val (.int (2 : Int32)), .unset, .unset, .unset, .unset, .unset, .unset, .unset, .unset, .unset] [])) _
        refine XS.iconst X429.here hx rfl (hb hby at_225) ?_
        refine XS.istore X429.here hx rfl (hb hby at_226) rfl (l' := #[.val (.long q0), .second, .val (.long q1), .second, .val (.long q2), .second, .val (.long q3), .second, .val (.int p4), .val (.ref b101), .val (.ref b111), .val (.ref b127), .val (.ref b149), .val (.int (1 : Int32)), .val (.int (1 : Int32)), .val (.ref b178), .val (.int (0 : Int32)), .val (.int (1 : Int32)), .val (.int (2 : Int32)), .val (.int (0 : Int32)), .unset, .unset, .unset, .unset, .unset, .unset, .unset, .unset]) rfl ?_
        show Steps p.tables e below (T429.setTop (mkF m 228 #[.val (.long q0), .second, .val (.long q1), .second, .val (.long q2), .second, .val (.long q3), .second, .val (.int p4), .val (.ref b101), .val (.ref b111), .val (.ref b127), .val (.ref b149), .val (.int (1 : Int32)), .val (.int (1 : Int32)), .val (.ref b178), .val (.int (0 : Int32)), .val (.int (1 : Int32)), .val (.int (2 : Int32)), .val (.int (0 : Int32)), .unset, .unset, .unset, .unset, .unset, .unset, .unset, .unset] [])) _
        refine XS.aload X429.here hx rfl (hb hby at_228) rfl rfl ?_
        refine XS.aload X429.here hx rfl (hb hby at_230) rfl rfl ?_
        show Steps p.tables e below (T429.setTop (mkF m 232 #[.val (.long q0), .second, .val (.long q1), .second, .val (.long q2), .second, .val (.long q3), .second, .val (.int p4), .val (.ref b101), .val (.ref b111), .val (.ref b127), .val (.ref b149), .val (.int (1 : Int32)), .val (.int (1 : Int32)), .val (.ref b178), .val (.int (0 : Int32)), .val (.int (1 : Int32)), .val (.int (2 : Int32)), .val (.int (0 : Int32)), .unset, .unset, .unset, .unset, .unset, .unset, .unset, .unset] [(.ref b101), (.ref b178)])) _
        refine st459.trans ?_
        show Steps p.tables e below (T459.setTop (mkF m 235 #[.val (.long q0), .second, .val (.long q1), .second, .val (.long q2), .second, .val (.long q3), .second, .val (.int p4), .val (.ref b101), .val (.ref b111), .val (.ref b127), .val (.ref b149), .val (.int (1 : Int32)), .val (.int (1 : Int32)), .val (.ref b178), .val (.int (0 : Int32)), .val (.int (1 : Int32)), .val (.int (2 : Int32)), .val (.int (0 : Int32)), .unset, .unset, .unset, .unset, .unset, .unset, .unset, .unset] [(.int (0 : Int32))])) _
        refine XS.istore X459.here hx rfl (hb hby at_235) rfl (l' := #[.val (.long q0), .second, .val (.long q1), .second, .val (.long q2), .second, .val (.long q3), .second, .val (.int p4), .val (.ref b101), .val (.ref b111), .val (.ref b127), .val (.ref b149), .val (.int (1 : Int32)), .val (.int (1 : Int32)), .val (.ref b178), .val (.int (0 : Int32)), .val (.int (1 : Int32)), .val (.int (2 : Int32)), .val (.int (0 : Int32)), .val (.int (0 : Int32)), .unset, .unset, .unset, .unset, .unset, .unset, .unset]) rfl ?_
        show Steps p.tables e below (T459.setTop (mkF m 237 #[.val (.long q0), .second, .val (.long q1), .second, .val (.long q2), .second, .val (.long q3), .second, .val (.int p4), .val (.ref b101), .val (.ref b111), .val (.ref b127), .val (.ref b149), .val (.int (1 : Int32)), .val (.int (1 : Int32)), .val (.ref b178), .val (.int (0 : Int32)), .val (.int (1 : Int32)), .val (.int (2 : Int32)), .val (.int (0 : Int32)), .val (.int (0 : Int32)), .unset, .unset, .unset, .unset, .unset, .unset, .unset] [])) _
        refine XS.aload X459.here hx rfl (hb hby at_237) rfl rfl ?_
        refine XS.aload X459.here hx rfl (hb hby at_239) rfl rfl ?_
        show Steps p.tables e below (T459.setTop (mkF m 241 #[.val (.long q0), .second, .val (.long q1), .second, .val (.long q2), .second, .val (.long q3), .second, .val (.int p4), .val (.ref b101), .val (.ref b111), .val (.ref b127), .val (.ref b149), .val (.int (1 : Int32)), .val (.int (1 : Int32)), .val (.ref b178), .val (.int (0 : Int32)), .val (.int (1 : Int32)), .val (.int (2 : Int32)), .val (.int (0 : Int32)), .val (.int (0 : Int32)), .unset, .unset, .unset, .unset, .unset, .unset, .unset] [(.ref b111), (.ref b178)])) _
        refine st460.trans ?_
        show Steps p.tables e below (T460.setTop (mkF m 244 #[.val (.long q0), .second, .val (.long q1), .second, .val (.long q2), .second, .val (.long q3), .second, .val (.int p4), .val (.ref b101), .val (.ref b111), .val (.ref b127), .val (.ref b149), .val (.int (1 : Int32)), .val (.int (1 : Int32)), .val (.ref b178), .val (.int (0 : Int32)), .val (.int (1 : Int32)), .val (.int (2 : Int32)), .val (.int (0 : Int32)), .val (.int (0 : Int32)), .unset, .unset, .unset, .unset, .unset, .unset, .unset] [(.int (1 : Int32))])) _
        refine XS.istore X460.here hx rfl (hb hby at_244) rfl (l' := #[.val (.long q0), .second, .val (.long q1), .second, .val (.long q2), .second, .val (.long q3), .second, .val (.int p4), .val (.ref b101), .val (.ref b111), .val (.ref b127), .val (.ref b149), .val (.int (1 : Int32)), .val (.int (1 : Int32)), .val (.ref b178), .val (.int (0 : Int32)), .val (.int (1 : Int32)), .val (.int (2 : Int32)), .val (.int (0 : Int32)), .val (.int (0 : Int32)), .val (.int (1 : Int32)), .unset, .unset, .unset, .unset, .unset, .unset]) rfl ?_
        show Steps p.tables e below (T460.setTop (mkF m 246 #[.val (.long q0), .second, .val (.long q1), .second, .val (.long q2), .second, .val (.long q3), .second, .val (.int p4), .val (.ref b101), .val (.ref b111), .val (.ref b127), .val (.ref b149), .val (.int (1 : Int32)), .val (.int (1 : Int32)), .val (.ref b178), .val (.int (0 : Int32)), .val (.int (1 : Int32)), .val (.int (2 : Int32)), .val (.int (0 : Int32)), .val (.int (0 : Int32)), .val (.int (1 : Int32)), .unset, .unset, .unset, .unset, .unset, .unset] [])) _
        refine XS.aload X460.here hx rfl (hb hby at_246) rfl rfl ?_
        refine XS.aload X460.here hx rfl (hb hby at_248) rfl rfl ?_
        show Steps p.tables e below (T460.setTop (mkF m 250 #[.val (.long q0), .second, .val (.long q1), .second, .val (.long q2), .second, .val (.long q3), .second, .val (.int p4), .val (.ref b101), .val (.ref b111), .val (.ref b127), .val (.ref b149), .val (.int (1 : Int32)), .val (.int (1 : Int32)), .val (.ref b178), .val (.int (0 : Int32)), .val (.int (1 : Int32)), .val (.int (2 : Int32)), .val (.int (0 : Int32)), .val (.int (0 : Int32)), .val (.int (1 : Int32)), .unset, .unset, .unset, .unset, .unset, .unset] [(.ref b127), (.ref b178)])) _
        refine st461.trans ?_
        show Steps p.tables e below (T461.setTop (mkF m 253 #[.val (.long q0), .second, .val (.long q1), .second, .val (.long q2), .second, .val (.long q3), .second, .val (.int p4), .val (.ref b101), .val (.ref b111), .val (.ref b127), .val (.ref b149), .val (.int (1 : Int32)), .val (.int (1 : Int32)), .val (.ref b178), .val (.int (0 : Int32)), .val (.int (1 : Int32)), .val (.int (2 : Int32)), .val (.int (0 : Int32)), .val (.int (0 : Int32)), .val (.int (1 : Int32)), .unset, .unset, .unset, .unset, .unset, .unset] [(.int (2 : Int32))])) _
        refine XS.istore X461.here hx rfl (hb hby at_253) rfl (l' := #[.val (.long q0), .second, .val (.long q1), .second, .val (.long q2), .second, .val (.long q3), .second, .val (.int p4), .val (.ref b101), .val (.ref b111), .val (.ref b127), .val (.ref b149), .val (.int (1 : Int32)), .val (.int (1 : Int32)), .val (.ref b178), .val (.int (0 : Int32)), .val (.int (1 : Int32)), .val (.int (2 : Int32)), .val (.int (0 : Int32)), .val (.int (0 : Int32)), .val (.int (1 : Int32)), .val (.int (2 : Int32)), .unset, .unset, .unset, .unset, .unset]) rfl ?_
        show Steps p.tables e below (T461.setTop (mkF m 255 #[.val (.long q0), .second, .val (.long q1), .second, .val (.long q2), .second, .val (.long q3), .second, .val (.int p4), .val (.ref b101), .val (.ref b111), .val (.ref b127), .val (.ref b149), .val (.int (1 : Int32)), .val (.int (1 : Int32)), .val (.ref b178), .val (.int (0 : Int32)), .val (.int (1 : Int32)), .val (.int (2 : Int32)), .val (.int (0 : Int32)), .val (.int (0 : Int32)), .val (.int (1 : Int32)), .val (.int (2 : Int32)), .unset, .unset, .unset, .unset, .unset] [])) _
        refine XS.iload X461.here hx rfl (hb hby at_255) rfl ?_
        refine XS.ifYes X461.here hx rfl (pc0 := 257) (pc' := 269) rfl (hb hby at_257) rfl ((if0 _ _).trans (teq (by decide : (0 : Int32) = (0 : Int32))).1) (by decide) (by decide) ?_
        show Steps p.tables e below (T461.setTop (mkF m 269 #[.val (.long q0), .second, .val (.long q1), .second, .val (.long q2), .second, .val (.long q3), .second, .val (.int p4), .val (.ref b101), .val (.ref b111), .val (.ref b127), .val (.ref b149), .val (.int (1 : Int32)), .val (.int (1 : Int32)), .val (.ref b178), .val (.int (0 : Int32)), .val (.int (1 : Int32)), .val (.int (2 : Int32)), .val (.int (0 : Int32)), .val (.int (0 : Int32)), .val (.int (1 : Int32)), .val (.int (2 : Int32)), .unset, .unset, .unset, .unset, .unset] [])) _
        refine XS.iconst X461.here hx rfl (hb hby at_269) ?_
        refine XS.istore X461.here hx rfl (hb hby at_270) rfl (l' := #[.val (.long q0), .second, .val (.long q1), .second, .val (.long q2), .second, .val (.long q3), .second, .val (.int p4), .val (.ref b101), .val (.ref b111), .val (.ref b127), .val (.ref b149), .val (.int (1 : Int32)), .val (.int (1 : Int32)), .val (.ref b178), .val (.int (0 : Int32)), .val (.int (1 : Int32)), .val (.int (2 : Int32)), .val (.int (0 : Int32)), .val (.int (0 : Int32)), .val (.int (1 : Int32)), .val (.int (2 : Int32)), .val (.int (0 : Int32)), .unset, .unset, .unset, .unset]) rfl ?_
        show Steps p.tables e below (T461.setTop (mkF m 272 #[.val (.long q0), .second, .val (.long q1), .second, .val (.long q2), .second, .val (.long q3), .second, .val (.int p4), .val (.ref b101), .val (.ref b111), .val (.ref b127), .val (.ref b149), .val (.int (1 : Int32)), .val (.int (1 : Int32)), .val (.ref b178), .val (.int (0 : Int32)), .val (.int (1 : Int32)), .val (.int (2 : Int32)), .val (.int (0 : Int32)), .val (.int (0 : Int32)), .val (.int (1 : Int32)), .val (.int (2 : Int32)), .val (.int (0 : Int32)), .unset, .unset, .unset, .unset] [])) _
        refine XS.iload X461.here hx rfl (hb hby at_272) rfl ?_
        refine XS.ifYes X461.here hx rfl (pc0 := 274) (pc' := 287) rfl (hb hby at_274) rfl ((if0 _ _).trans (teq (by decide : (0 : Int32) = (0 : Int32))).1) (by decide) (by decide) ?_
        show Steps p.tables e below (T461.setTop (mkF m 287 #[.val (.long q0), .second, .val (.long q1), .second, .val (.long q2), .second, .val (.long q3), .second, .val (.int p4), .val (.ref b101), .val (.ref b111), .val (.ref b127), .val (.ref b149), .val (.int (1 : Int32)), .val (.int (1 : Int32)), .val (.ref b178), .val (.int (0 : Int32)), .val (.int (1 : Int32)), .val (.int (2 : Int32)), .val (.int (0 : Int32)), .val (.int (0 : Int32)), .val (.int (1 : Int32)), .val (.int (2 : Int32)), .val (.int (0 : Int32)), .unset, .unset, .unset, .unset] [])) _
        refine XS.iconst X461.here hx rfl (hb hby at_287) ?_
        refine XS.istore X461.here hx rfl (hb hby at_288) rfl (l' := #[.val (.long q0), .second, .val (.long q1), .second, .val (.long q2), .second, .val (.long q3), .second, .val (.int p4), .val (.ref b101), .val (.ref b111), .val (.ref b127), .val (.ref b149), .val (.int (1 : Int32)), .val (.int (1 : Int32)), .val (.ref b178), .val (.int (0 : Int32)), .val (.int (1 : Int32)), .val (.int (2 : Int32)), .val (.int (0 : Int32)), .val (.int (0 : Int32)), .val (.int (1 : Int32)), .val (.int (2 : Int32)), .val (.int (0 : Int32)), .val (.int (1 : Int32)), .unset, .unset, .unset]) rfl ?_
        show Steps p.tables e below (T461.setTop (mkF m 290 #[.val (.long q0), .second, .val (.long q1), .second, .val (.long q2), .second, .val (.long q3), .second, .val (.int p4), .val (.ref b101), .val (.ref b111), .val (.ref b127), .val (.ref b149), .val (.int (1 : Int32)), .val (.int (1 : Int32)), .val (.ref b178), .val (.int (0 : Int32)), .val (.int (1 : Int32)), .val (.int (2 : Int32)), .val (.int (0 : Int32)), .val (.int (0 : Int32)), .val (.int (1 : Int32)), .val (.int (2 : Int32)), .val (.int (0 : Int32)), .val (.int (1 : Int32)), .unset, .unset, .unset] [])) _
        refine XS.iload X461.here hx rfl (hb hby at_290) rfl ?_
        refine XS.ifYes X461.here hx rfl (pc0 := 292) (pc' := 305) rfl (hb hby at_292) rfl ((if0 _ _).trans (teq (by decide : (0 : Int32) = (0 : Int32))).1) (by decide) (by decide) ?_
        show Steps p.tables e below (T461.setTop (mkF m 305 #[.val (.long q0), .second, .val (.long q1), .second, .val (.long q2), .second, .val (.long q3), .second, .val (.int p4), .val (.ref b101), .val (.ref b111), .val (.ref b127), .val (.ref b149), .val (.int (1 : Int32)), .val (.int (1 : Int32)), .val (.ref b178), .val (.int (0 : Int32)), .val (.int (1 : Int32)), .val (.int (2 : Int32)), .val (.int (0 : Int32)), .val (.int (0 : Int32)), .val (.int (1 : Int32)), .val (.int (2 : Int32)), .val (.int (0 : Int32)), .val (.int (1 : Int32)), .unset, .unset, .unset] [])) _
        refine XS.iconst X461.here hx rfl (hb hby at_305) ?_
        refine XS.istore X461.here hx rfl (hb hby at_306) rfl (l' := #[.val (.long q0), .second, .val (.long q1), .second, .val (.long q2), .second, .val (.long q3), .second, .val (.int p4), .val (.ref b101), .val (.ref b111), .val (.ref b127), .val (.ref b149), .val (.int (1 : Int32)), .val (.int (1 : Int32)), .val (.ref b178), .val (.int (0 : Int32)), .val (.int (1 : Int32)), .val (.int (2 : Int32)), .val (.int (0 : Int32)), .val (.int (0 : Int32)), .val (.int (1 : Int32)), .val (.int (2 : Int32)), .val (.int (0 : Int32)), .val (.int (1 : Int32)), .val (.int (2 : Int32)), .unset, .unset]) rfl ?_
        show Steps p.tables e below (T461.setTop (mkF m 308 #[.val (.long q0), .second, .val (.long q1), .second, .val (.long q2), .second, .val (.long q3), .second, .val (.int p4), .val (.ref b101), .val (.ref b111), .val (.ref b127), .val (.ref b149), .val (.int (1 : Int32)), .val (.int (1 : Int32)), .val (.ref b178), .val (.int (0 : Int32)), .val (.int (1 : Int32)), .val (.int (2 : Int32)), .val (.int (0 : Int32)), .val (.int (0 : Int32)), .val (.int (1 : Int32)), .val (.int (2 : Int32)), .val (.int (0 : Int32)), .val (.int (1 : Int32)), .val (.int (2 : Int32)), .unset, .unset] [])) _
        refine XS.aload X461.here hx rfl (hb hby at_308) rfl rfl ?_
        refine XS.aload X461.here hx rfl (hb hby at_310) rfl rfl ?_
        show Steps p.tables e below (T461.setTop (mkF m 312 #[.val (.long q0), .second, .val (.long q1), .second, .val (.long q2), .second, .val (.long q3), .second, .val (.int p4), .val (.ref b101), .val (.ref b111), .val (.ref b127), .val (.ref b149), .val (.int (1 : Int32)), .val (.int (1 : Int32)), .val (.ref b178), .val (.int (0 : Int32)), .val (.int (1 : Int32)), .val (.int (2 : Int32)), .val (.int (0 : Int32)), .val (.int (0 : Int32)), .val (.int (1 : Int32)), .val (.int (2 : Int32)), .val (.int (0 : Int32)), .val (.int (1 : Int32)), .val (.int (2 : Int32)), .unset, .unset] [(.ref b149), (.ref b178)])) _
        refine st462.trans ?_
        show Steps p.tables e below (T462.setTop (mkF m 315 #[.val (.long q0), .second, .val (.long q1), .second, .val (.long q2), .second, .val (.long q3), .second, .val (.int p4), .val (.ref b101), .val (.ref b111), .val (.ref b127), .val (.ref b149), .val (.int (1 : Int32)), .val (.int (1 : Int32)), .val (.ref b178), .val (.int (0 : Int32)), .val (.int (1 : Int32)), .val (.int (2 : Int32)), .val (.int (0 : Int32)), .val (.int (0 : Int32)), .val (.int (1 : Int32)), .val (.int (2 : Int32)), .val (.int (0 : Int32)), .val (.int (1 : Int32)), .val (.int (2 : Int32)), .unset, .unset] [(.int (3 : Int32))])) _
        refine XS.istore X462.here hx rfl (hb hby at_315) rfl (l' := #[.val (.long q0), .second, .val (.long q1), .second, .val (.long q2), .second, .val (.long q3), .second, .val (.int p4), .val (.ref b101), .val (.ref b111), .val (.ref b127), .val (.ref b149), .val (.int (1 : Int32)), .val (.int (1 : Int32)), .val (.ref b178), .val (.int (0 : Int32)), .val (.int (1 : Int32)), .val (.int (2 : Int32)), .val (.int (0 : Int32)), .val (.int (0 : Int32)), .val (.int (1 : Int32)), .val (.int (2 : Int32)), .val (.int (0 : Int32)), .val (.int (1 : Int32)), .val (.int (2 : Int32)), .val (.int (3 : Int32)), .unset]) rfl ?_
        show Steps p.tables e below (T462.setTop (mkF m 317 #[.val (.long q0), .second, .val (.long q1), .second, .val (.long q2), .second, .val (.long q3), .second, .val (.int p4), .val (.ref b101), .val (.ref b111), .val (.ref b127), .val (.ref b149), .val (.int (1 : Int32)), .val (.int (1 : Int32)), .val (.ref b178), .val (.int (0 : Int32)), .val (.int (1 : Int32)), .val (.int (2 : Int32)), .val (.int (0 : Int32)), .val (.int (0 : Int32)), .val (.int (1 : Int32)), .val (.int (2 : Int32)), .val (.int (0 : Int32)), .val (.int (1 : Int32)), .val (.int (2 : Int32)), .val (.int (3 : Int32)), .unset] [])) _
        refine XS.iload X462.here hx rfl (hb hby at_317) rfl ?_
        refine XS.ifYes X462.here hx rfl (pc0 := 319) (pc' := 327) rfl (hb hby at_319) rfl ((if0 _ _).trans (teq (by decide : (0 : Int32) = (0 : Int32))).1) (by decide) (by decide) ?_
        show Steps p.tables e below (T462.setTop (mkF m 327 #[.val (.long q0), .second, .val (.long q1), .second, .val (.long q2), .second, .val (.long q3), .second, .val (.int p4), .val (.ref b101), .val (.ref b111), .val (.ref b127), .val (.ref b149), .val (.int (1 : Int32)), .val (.int (1 : Int32)), .val (.ref b178), .val (.int (0 : Int32)), .val (.int (1 : Int32)), .val (.int (2 : Int32)), .val (.int (0 : Int32)), .val (.int (0 : Int32)), .val (.int (1 : Int32)), .val (.int (2 : Int32)), .val (.int (0 : Int32)), .val (.int (1 : Int32)), .val (.int (2 : Int32)), .val (.int (3 : Int32)), .unset] [])) _
        refine XS.iconst X462.here hx rfl (hb hby at_327) ?_
        refine XS.istore X462.here hx rfl (hb hby at_328) rfl (l' := #[.val (.long q0), .second, .val (.long q1), .second, .val (.long q2), .second, .val (.long q3), .second, .val (.int p4), .val (.ref b101), .val (.ref b111), .val (.ref b127), .val (.ref b149), .val (.int (1 : Int32)), .val (.int (1 : Int32)), .val (.ref b178), .val (.int (0 : Int32)), .val (.int (1 : Int32)), .val (.int (2 : Int32)), .val (.int (0 : Int32)), .val (.int (0 : Int32)), .val (.int (1 : Int32)), .val (.int (2 : Int32)), .val (.int (0 : Int32)), .val (.int (1 : Int32)), .val (.int (2 : Int32)), .val (.int (3 : Int32)), .val (.int (3 : Int32))]) rfl ?_
        show Steps p.tables e below (T462.setTop (mkF m 330 #[.val (.long q0), .second, .val (.long q1), .second, .val (.long q2), .second, .val (.long q3), .second, .val (.int p4), .val (.ref b101), .val (.ref b111), .val (.ref b127), .val (.ref b149), .val (.int (1 : Int32)), .val (.int (1 : Int32)), .val (.ref b178), .val (.int (0 : Int32)), .val (.int (1 : Int32)), .val (.int (2 : Int32)), .val (.int (0 : Int32)), .val (.int (0 : Int32)), .val (.int (1 : Int32)), .val (.int (2 : Int32)), .val (.int (0 : Int32)), .val (.int (1 : Int32)), .val (.int (2 : Int32)), .val (.int (3 : Int32)), .val (.int (3 : Int32))] [])) _
        refine XS.iload X462.here hx rfl (hb hby at_330) rfl ?_
        refine XS.iload X462.here hx rfl (hb hby at_332) rfl ?_
        refine XS.icmpNo X462.here hx rfl (hb hby at_334) rfl (teq (by decide : (0 : Int32) = (0 : Int32))).2 ?_
        show Steps p.tables e below (T462.setTop (mkF m 337 #[.val (.long q0), .second, .val (.long q1), .second, .val (.long q2), .second, .val (.long q3), .second, .val (.int p4), .val (.ref b101), .val (.ref b111), .val (.ref b127), .val (.ref b149), .val (.int (1 : Int32)), .val (.int (1 : Int32)), .val (.ref b178), .val (.int (0 : Int32)), .val (.int (1 : Int32)), .val (.int (2 : Int32)), .val (.int (0 : Int32)), .val (.int (0 : Int32)), .val (.int (1 : Int32)), .val (.int (2 : Int32)), .val (.int (0 : Int32)), .val (.int (1 : Int32)), .val (.int (2 : Int32)), .val (.int (3 : Int32)), .val (.int (3 : Int32))] [])) _
        refine XS.iload X462.here hx rfl (hb hby at_337) rfl ?_
        refine XS.iload X462.here hx rfl (hb hby at_339) rfl ?_
        refine XS.icmpNo X462.here hx rfl (hb hby at_341) rfl (teq (by decide : (1 : Int32) = (1 : Int32))).2 ?_
        show Steps p.tables e below (T462.setTop (mkF m 344 #[.val (.long q0), .second, .val (.long q1), .second, .val (.long q2), .second, .val (.long q3), .second, .val (.int p4), .val (.ref b101), .val (.ref b111), .val (.ref b127), .val (.ref b149), .val (.int (1 : Int32)), .val (.int (1 : Int32)), .val (.ref b178), .val (.int (0 : Int32)), .val (.int (1 : Int32)), .val (.int (2 : Int32)), .val (.int (0 : Int32)), .val (.int (0 : Int32)), .val (.int (1 : Int32)), .val (.int (2 : Int32)), .val (.int (0 : Int32)), .val (.int (1 : Int32)), .val (.int (2 : Int32)), .val (.int (3 : Int32)), .val (.int (3 : Int32))] [])) _
        refine XS.iload X462.here hx rfl (hb hby at_344) rfl ?_
        refine XS.iload X462.here hx rfl (hb hby at_346) rfl ?_
        refine XS.icmpNo X462.here hx rfl (hb hby at_348) rfl (teq (by decide : (2 : Int32) = (2 : Int32))).2 ?_
        show Steps p.tables e below (T462.setTop (mkF m 351 #[.val (.long q0), .second, .val (.long q1), .second, .val (.long q2), .second, .val (.long q3), .second, .val (.int p4), .val (.ref b101), .val (.ref b111), .val (.ref b127), .val (.ref b149), .val (.int (1 : Int32)), .val (.int (1 : Int32)), .val (.ref b178), .val (.int (0 : Int32)), .val (.int (1 : Int32)), .val (.int (2 : Int32)), .val (.int (0 : Int32)), .val (.int (0 : Int32)), .val (.int (1 : Int32)), .val (.int (2 : Int32)), .val (.int (0 : Int32)), .val (.int (1 : Int32)), .val (.int (2 : Int32)), .val (.int (3 : Int32)), .val (.int (3 : Int32))] [])) _
        refine XS.iload X462.here hx rfl (hb hby at_351) rfl ?_
        refine XS.iload X462.here hx rfl (hb hby at_353) rfl ?_
        refine XS.icmpNo X462.here hx rfl (hb hby at_355) rfl (teq (by decide : (3 : Int32) = (3 : Int32))).2 ?_
        show Steps p.tables e below (T462.setTop (mkF m 358 #[.val (.long q0), .second, .val (.long q1), .second, .val (.long q2), .second, .val (.long q3), .second, .val (.int p4), .val (.ref b101), .val (.ref b111), .val (.ref b127), .val (.ref b149), .val (.int (1 : Int32)), .val (.int (1 : Int32)), .val (.ref b178), .val (.int (0 : Int32)), .val (.int (1 : Int32)), .val (.int (2 : Int32)), .val (.int (0 : Int32)), .val (.int (0 : Int32)), .val (.int (1 : Int32)), .val (.int (2 : Int32)), .val (.int (0 : Int32)), .val (.int (1 : Int32)), .val (.int (2 : Int32)), .val (.int (3 : Int32)), .val (.int (3 : Int32))] [])) _
        refine XS.iconst X462.here hx rfl (hb hby at_358) ?_
        refine XS.goto X462.here hx rfl (pc0 := 359) (pc' := 363) rfl (hb hby at_359) (by decide) (by decide) ?_
        exact kt
      refine own_go hgo479 ?_
      exact own_retZ X462 hx Bd.returns Bd.notSynchronized (hb hby at_363) (by decide) (by decide) (Or.inr (rfl : (1 : Int32) = 1)) ⟨by rw [(rfl : (1 : Int32) = 1)], N462⟩
    · obtain ⟨rl0, rl1, rl2⟩ := own_rlt hr3
      have HHr := HH3 _ rl0
      obtain ⟨ca, cb, ⟨ck0, ck1, ck2⟩, ck3, cz3⟩ := own_c1 (own_fin2 (a := t0) (b := t1) (c := t2) (d := t3) hr3)
      rw [← ht0, ← ht1, ← ht2] at ca cb ck0 ck1 ck2 ck3 cz3
      rw [← ht3] at ck3 cz3
      have V4 := own_rmsV cb own_V3 (own_and31 _)
      obtain ⟨cq480, kq480, q480a, q480b, q480c⟩ := isOf hZ (rfl : T398.heap = T398.heap) F411
      obtain ⟨_, _, ⟨T480, L480, k480, n480⟩, -, X480, ⟨Lc480, hQ480, l480, y480, z480⟩, st480⟩ := X398.virtualBack hx (y := (⟨"com/example/upper_falls/upperfalls/HeldKeys", "release", "(I)V"⟩ : MethodName)) (z := (⟨"com/example/upper_falls/upperfalls/HeldKeys", "release", "(I)V"⟩ : MethodName)) hown (mvT hZ (own_wd hw 103 rfl)) (mvT hZ (own_wd hw 104 rfl)) (notFace_of_selects (args := #[]) (mvT hZ (own_wd hw 106 rfl))) (mvT hZ (own_wd hw 106 rfl)) (mvT hZ (own_wd hw 105 rfl)) (by decide) (backOf (W := 0) (rmrl l Z a0 hw [] b178 v5 b202_0 b202_1 b202_2 b202_3 b202_4 b202_5 v23 v24 v25 v51 v11 v26 (3 : Int32) (own_RS ((v1.toInt32) &&& (31 : Int32)) ((v2.toInt32) &&& (31 : Int32)) ((v3.toInt32) &&& (31 : Int32)) v5) 3 (own_HM ((v1.toInt32) &&& (31 : Int32)) ((v2.toInt32) &&& (31 : Int32)) ((v3.toInt32) &&& (31 : Int32))) (own_F4 ((v1.toInt32) &&& (31 : Int32)) ((v2.toInt32) &&& (31 : Int32)) ((v3.toInt32) &&& (31 : Int32)) v5) (T398.heap) n0 Z426 F411 F413 F414 F415 F416 F417 F418 F419 F420 F421 F422 F423 F424 F398_0n F412 F425 (rl1 : (¬ v5 < 0 ∧ v5.toNatClampNeg < 16)) ((by rcases hr3 with q | q | q <;> first | exact absurd q hs207_52 | (rw [q, hv51, hv27, hv22, hv17, hv10]; decide)) : ((v51 v5.toNatClampNeg) - (1 : Int32)) = (0 : Int32)) ((by rw [hF3]; exact own_V3) : own_V 3 v26) (by decide : 3 ≤ 3) (HH3 : own_HH 3 v23 (own_HM ((v1.toInt32) &&& (31 : Int32)) ((v2.toInt32) &&& (31 : Int32)) ((v3.toInt32) &&& (31 : Int32)))) ((by rw [hF3, HHr]; exact ca) : own_slt v26 v5 8 (((v23 v5.toNatClampNeg).toInt32) &&& (31 : Int32)) = some (own_RS ((v1.toInt32) &&& (31 : Int32)) ((v2.toInt32) &&& (31 : Int32)) ((v3.toInt32) &&& (31 : Int32)) v5)) ((by rw [hF3]; exact cb) : own_rms (own_HM ((v1.toInt32) &&& (31 : Int32)) ((v2.toInt32) &&& (31 : Int32)) ((v3.toInt32) &&& (31 : Int32))) 8 v26 (own_RS ((v1.toInt32) &&& (31 : Int32)) ((v2.toInt32) &&& (31 : Int32)) ((v3.toInt32) &&& (31 : Int32)) v5) (((own_RS ((v1.toInt32) &&& (31 : Int32)) ((v2.toInt32) &&& (31 : Int32)) ((v3.toInt32) &&& (31 : Int32)) v5) + (1 : Int32)) &&& (31 : Int32)) = some (own_F4 ((v1.toInt32) &&& (31 : Int32)) ((v2.toInt32) &&& (31 : Int32)) ((v3.toInt32) &&& (31 : Int32)) v5)) ne_b178_b202_3 F202_8 F202_12 F202_15 (Ne.symm F202_18) (Ne.symm F202_19) g_b202_3 g_b202_5 ne_b178_b202_5 F202_10 F202_14 F202_17 F202_20 F202_19 (Ne.symm ne_b178_b202_0) (Ne.symm ne_b178_b202_1) (Ne.symm ne_b178_b202_2) (Ne.symm ne_b178_b202_4) (Ne.symm ne_b178_b202_3) (Ne.symm ne_b178_b202_5) g_b178 ne_b178_b202_4 F202_9 F202_13 F202_16 F202_18 (Ne.symm F202_20) g_b202_4) hZ (own_wd hw 107 rfl) (own_wd hw 27 rfl) (by decide) (by decide)) q480a q480c (g := (mkF m 211 #[.val (.long q0), .second, .val (.long q1), .second, .val (.long q2), .second, .val (.long q3), .second, .val (.int p4), .val (.ref b101), .val (.ref b111), .val (.ref b127), .val (.ref b149), .val (.int v5), .val (.int (1 : Int32)), .val (.ref b178), .val (.int (0 : Int32)), .val (.int (1 : Int32)), .val (.int (2 : Int32)), .unset, .unset, .unset, .unset, .unset, .unset, .unset, .unset, .unset] [(.int v5), (.ref b178)])) rfl (by rw [hml]; rfl) (Steps.refl _) (argsL := [(.int v5)]) (rest := []) (lenOf pd14 rfl) rfl (by show 2 * 0 + _ ≤ _; exact Nat.le_of_eq rfl) (hb hby at_211) (fun _ _ => ⟨rfl, (rfl : T398.heap = T398.heap), (by decide : 11 + 0 ≤ _), (by decide : 129 + 0 ≤ _)⟩)
      dsimp only [Pt.U, Pt.locs, Pt.cells, Pt.slots] at X480 l480 y480 z480 st480 hQ480
      subst l480 y480 z480
      obtain ⟨rfl, N480q, K480q, F480_0, F480_1, F480_2, F480_3, F480_4, F480_5, F480_6, F480_7, F480_8, F480_9, F480_10, F480_11, F480_12⟩ := hQ480
      have F481 := F399.keep K480q
      have F482 := F400.keep K480q (ninS ne_b101_b202_3 (ninS ne_b101_b202_5 (ninS ne_b101_b178 (ninS ne_b101_b202_4 nin0))))
      have F483 := F401.keep K480q (ninS ne_b101_b202_3 (ninS ne_b101_b202_5 (ninS ne_b101_b178 (ninS ne_b101_b202_4 nin0))))
      have F484 := F402.keep K480q
      have F485 := F403.keep K480q (ninS ne_b111_b202_3 (ninS ne_b111_b202_5 (ninS ne_b111_b178 (ninS ne_b111_b202_4 nin0))))
      have F486 := F404.keep K480q (ninS ne_b111_b202_3 (ninS ne_b111_b202_5 (ninS ne_b111_b178 (ninS ne_b111_b202_4 nin0))))
      have F487 := F405.keep K480q
      have F488 := F406.keep K480q (ninS ne_b127_b202_3 (ninS ne_b127_b202_5 (ninS ne_b127_b178 (ninS ne_b127_b202_4 nin0))))
      have F489 := F407.keep K480q (ninS ne_b127_b202_3 (ninS ne_b127_b202_5 (ninS ne_b127_b178 (ninS ne_b127_b202_4 nin0))))
      have F490 := F408.keep K480q
      have F491 := F409.keep K480q (ninS ne_b149_b202_3 (ninS ne_b149_b202_5 (ninS ne_b149_b178 (ninS ne_b149_b202_4 nin0))))
      have F492 := F410.keep K480q (ninS ne_b149_b202_3 (ninS ne_b149_b202_5 (ninS ne_b149_b178 (ninS ne_b149_b202_4 nin0))))
      have F493 := F411.keep K480q
      have F494 := F422.keep K480q (ninS F202_8 (ninS F202_10 (ninS (Ne.symm ne_b178_b202_0) (ninS F202_9 nin0))))
      have F495 := F423.keep K480q (ninS F202_12 (ninS F202_14 (ninS (Ne.symm ne_b178_b202_1) (ninS F202_13 nin0))))
      have F496 := F424.keep K480q (ninS F202_15 (ninS F202_17 (ninS (Ne.symm ne_b178_b202_2) (ninS F202_16 nin0))))
      have Z497 : n0 ≤ T480.heap.size := Nat.le_trans Z426 K480q.1
      have K498 : Keep h0 T480.heap [] := K427.trans K480q (allS (Or.inr sz_b202_3) (allS (Or.inr sz_b202_5) (allS (Or.inr sz_b178) (allS (Or.inr sz_b202_4) all0))))
      obtain ⟨v59, hv59⟩ : ∃ z : Nat → Int32, z = (own_up v51 (v5.toNatClampNeg) ((v51 v5.toNatClampNeg) - (1 : Int32))) := ⟨_, rfl⟩
      have F480_0n : own_AI Z T480.heap b202_3 .int 16 v59 := by rw [hv59]; exact F480_0
      obtain ⟨v60, hv60⟩ : ∃ z : Nat → Int32, z = (own_F4 ((v1.toInt32) &&& (31 : Int32)) ((v2.toInt32) &&& (31 : Int32)) ((v3.toInt32) &&& (31 : Int32)) v5) := ⟨_, rfl⟩
      have F480_1n : own_AI Z T480.heap b202_5 .int 32 v60 := by rw [hv60]; exact F480_1
      obtain ⟨v61, hv61⟩ : ∃ z : Nat → Int32, z = (own_up v11 0 v5) := ⟨_, rfl⟩
      have F480_12n : own_AI Z T480.heap b202_4 .int 16 v61 := by rw [hv61]; exact F480_12
      have N480 := Fr.app N398 N480q
      have hF4 : v60 = (own_F4 ((v1.toInt32) &&& (31 : Int32)) ((v2.toInt32) &&& (31 : Int32)) ((v3.toInt32) &&& (31 : Int32)) v5) := hv60
      obtain ⟨cq499, kq499, q499a, q499b, q499c⟩ := isOf hZ (rfl : T480.heap = T480.heap) F480_2
      obtain ⟨_, _, ⟨T499, L499, k499, n499⟩, -, X499, ⟨Lc499, hQ499, l499, y499, z499⟩, st499⟩ := X480.virtualBack hx (y := (⟨"com/example/upper_falls/upperfalls/HeldKeys", "find", "(Lcom/example/upper_falls/upperfalls/KeyHash;)I"⟩ : MethodName)) (z := (⟨"com/example/upper_falls/upperfalls/HeldKeys", "find", "(Lcom/example/upper_falls/upperfalls/KeyHash;)I"⟩ : MethodName)) hown (mvT hZ (own_wd hw 108 rfl)) (mvT hZ (own_wd hw 77 rfl)) (notFace_of_selects (args := #[]) (mvT hZ (own_wd hw 79 rfl))) (mvT hZ (own_wd hw 79 rfl)) (mvT hZ (own_wd hw 78 rfl)) (by decide) (backOf (W := 0) (rmfd l Z a0 hw [] b178 b101 b202_5 b202_0 b202_1 v60 v23 v24 v1 (0 : Int64) (0 : Int32) 3 (if v5 = (0 : Int32) then (-1 : Int32) else (0 : Int32)) (T480.heap) n0 Z497 F480_2 F480_8 F480_3 F480_4 F480_1n F494 F495 F481 F482 F483 ((by rw [hF4]; exact V4) : own_V 3 v60) ((own_Mk (t := 0) (by decide) (by decide) rfl rfl G3 (fun _ => P0)) : own_M 3 v23 v24 (0 : Int32) v1 (0 : Int64)) (by decide : 3 ≤ 3) ((by rw [hF4]; exact ck0) : own_fnd v60 (0 : Int32) 8 ((v1.toInt32) &&& (31 : Int32)) = some (if v5 = (0 : Int32) then (-1 : Int32) else (0 : Int32)))) hZ (own_wd hw 80 rfl) (own_wd hw 27 rfl) (by decide) (by decide)) q499a q499c (g := (mkF m 232 #[.val (.long q0), .second, .val (.long q1), .second, .val (.long q2), .second, .val (.long q3), .second, .val (.int p4), .val (.ref b101), .val (.ref b111), .val (.ref b127), .val (.ref b149), .val (.int v5), .val (.int (1 : Int32)), .val (.ref b178), .val (.int (0 : Int32)), .val (.int (1 : Int32)), .val (.int (2 : Int32)), .val (.int (1 : Int32)), .unset, .unset, .unset, .unset, .unset, .unset, .unset, .unset] [(.ref b101), (.ref b178)])) rfl (by rw [hml]; rfl) (Steps.refl _) (argsL := [(.ref b101)]) (rest := []) (lenOf pd13 rfl) rfl (by show 2 * 0 + _ ≤ _; exact Nat.le_of_eq rfl) (hb hby at_232) (fun _ _ => ⟨rfl, (rfl : T480.heap = T480.heap), (by decide : 11 + 0 ≤ _), (by decide : 129 + 0 ≤ _)⟩)
      dsimp only [Pt.U, Pt.locs, Pt.cells, Pt.slots] at X499 l499 y499 z499 st499 hQ499
      subst l499 y499 z499
      obtain ⟨rfl, N499q, e499⟩ := hQ499
      have N499 := Fr.app N480 N499q
      obtain ⟨v62, hv62⟩ : ∃ z : Int32, z = (if v5 = (0 : Int32) then (-1 : Int32) else (0 : Int32)) := ⟨_, rfl⟩
      obtain ⟨cq500, kq500, q500a, q500b, q500c⟩ := isOf hZ e499 F480_2
      obtain ⟨_, _, ⟨T500, L500, k500, n500⟩, -, X500, ⟨Lc500, hQ500, l500, y500, z500⟩, st500⟩ := X499.virtualBack hx (y := (⟨"com/example/upper_falls/upperfalls/HeldKeys", "find", "(Lcom/example/upper_falls/upperfalls/KeyHash;)I"⟩ : MethodName)) (z := (⟨"com/example/upper_falls/upperfalls/HeldKeys", "find", "(Lcom/example/upper_falls/upperfalls/KeyHash;)I"⟩ : MethodName)) hown (mvT hZ (own_wd hw 108 rfl)) (mvT hZ (own_wd hw 77 rfl)) (notFace_of_selects (args := #[]) (mvT hZ (own_wd hw 79 rfl))) (mvT hZ (own_wd hw 79 rfl)) (mvT hZ (own_wd hw 78 rfl)) (by decide) (backOf (W := 0) (rmfd l Z a0 hw [] b178 b111 b202_5 b202_0 b202_1 v60 v23 v24 v2 (1 : Int64) (1 : Int32) 3 (1 : Int32) (T480.heap) n0 Z497 F480_2 F480_8 F480_3 F480_4 F480_1n F494 F495 F484 F485 F486 ((by rw [hF4]; exact V4) : own_V 3 v60) ((own_Mk (t := 1) (by decide) (by decide) rfl rfl G3 (fun _ => P1)) : own_M 3 v23 v24 (1 : Int32) v2 (1 : Int64)) (by decide : 3 ≤ 3) ((by rw [hF4, ck1, if_neg hs207_52]) : own_fnd v60 (1 : Int32) 8 ((v2.toInt32) &&& (31 : Int32)) = some (1 : Int32))) hZ (own_wd hw 80 rfl) (own_wd hw 27 rfl) (by decide) (by decide)) q500a q500c (g := (mkF m 241 #[.val (.long q0), .second, .val (.long q1), .second, .val (.long q2), .second, .val (.long q3), .second, .val (.int p4), .val (.ref b101), .val (.ref b111), .val (.ref b127), .val (.ref b149), .val (.int v5), .val (.int (1 : Int32)), .val (.ref b178), .val (.int (0 : Int32)), .val (.int (1 : Int32)), .val (.int (2 : Int32)), .val (.int (1 : Int32)), .val (.int v62), .unset, .unset, .unset, .unset, .unset, .unset, .unset] [(.ref b111), (.ref b178)])) rfl (by rw [hml]; rfl) (Steps.refl _) (argsL := [(.ref b111)]) (rest := []) (lenOf pd13 rfl) rfl (by show 2 * 0 + _ ≤ _; exact Nat.le_of_eq rfl) (hb hby at_241) (fun _ _ => ⟨rfl, e499, (by decide : 11 + 0 ≤ _), (by decide : 129 + 0 ≤ _)⟩)
      dsimp only [Pt.U, Pt.locs, Pt.cells, Pt.slots] at X500 l500 y500 z500 st500 hQ500
      subst l500 y500 z500
      obtain ⟨rfl, N500q, e500⟩ := hQ500
      have N500 := Fr.app N499 N500q
      obtain ⟨cq501, kq501, q501a, q501b, q501c⟩ := isOf hZ e500 F480_2
      obtain ⟨_, _, ⟨T501, L501, k501, n501⟩, -, X501, ⟨Lc501, hQ501, l501, y501, z501⟩, st501⟩ := X500.virtualBack hx (y := (⟨"com/example/upper_falls/upperfalls/HeldKeys", "find", "(Lcom/example/upper_falls/upperfalls/KeyHash;)I"⟩ : MethodName)) (z := (⟨"com/example/upper_falls/upperfalls/HeldKeys", "find", "(Lcom/example/upper_falls/upperfalls/KeyHash;)I"⟩ : MethodName)) hown (mvT hZ (own_wd hw 108 rfl)) (mvT hZ (own_wd hw 77 rfl)) (notFace_of_selects (args := #[]) (mvT hZ (own_wd hw 79 rfl))) (mvT hZ (own_wd hw 79 rfl)) (mvT hZ (own_wd hw 78 rfl)) (by decide) (backOf (W := 0) (rmfd l Z a0 hw [] b178 b127 b202_5 b202_0 b202_1 v60 v23 v24 v3 (2 : Int64) (2 : Int32) 3 (if v5 = (2 : Int32) then (-1 : Int32) else (2 : Int32)) (T480.heap) n0 Z497 F480_2 F480_8 F480_3 F480_4 F480_1n F494 F495 F487 F488 F489 ((by rw [hF4]; exact V4) : own_V 3 v60) ((own_Mk (t := 2) (by decide) (by decide) rfl rfl G3 (fun _ => P2)) : own_M 3 v23 v24 (2 : Int32) v3 (2 : Int64)) (by decide : 3 ≤ 3) ((by rw [hF4]; exact ck2) : own_fnd v60 (2 : Int32) 8 ((v3.toInt32) &&& (31 : Int32)) = some (if v5 = (2 : Int32) then (-1 : Int32) else (2 : Int32)))) hZ (own_wd hw 80 rfl) (own_wd hw 27 rfl) (by decide) (by decide)) q501a q501c (g := (mkF m 250 #[.val (.long q0), .second, .val (.long q1), .second, .val (.long q2), .second, .val (.long q3), .second, .val (.int p4), .val (.ref b101), .val (.ref b111), .val (.ref b127), .val (.ref b149), .val (.int v5), .val (.int (1 : Int32)), .val (.ref b178), .val (.int (0 : Int32)), .val (.int (1 : Int32)), .val (.int (2 : Int32)), .val (.int (1 : Int32)), .val (.int v62), .val (.int (1 : Int32)), .unset, .unset, .unset, .unset, .unset, .unset] [(.ref b127), (.ref b178)])) rfl (by rw [hml]; rfl) (Steps.refl _) (argsL := [(.ref b127)]) (rest := []) (lenOf pd13 rfl) rfl (by show 2 * 0 + _ ≤ _; exact Nat.le_of_eq rfl) (hb hby at_250) (fun _ _ => ⟨rfl, e500, (by decide : 11 + 0 ≤ _), (by decide : 129 + 0 ≤ _)⟩)
      dsimp only [Pt.U, Pt.locs, Pt.cells, Pt.slots] at X501 l501 y501 z501 st501 hQ501
      subst l501 y501 z501
      obtain ⟨rfl, N501q, e501⟩ := hQ501
      have N501 := Fr.app N500 N501q
      obtain ⟨v63, hv63⟩ : ∃ z : Int32, z = (if v5 = (2 : Int32) then (-1 : Int32) else (2 : Int32)) := ⟨_, rfl⟩
      obtain ⟨T504, lc504, X504, N504, e504, st504⟩ := own_mrg (n0 := n0) (h := T480.heap) (g := (mkF m 262 #[.val (.long q0), .second, .val (.long q1), .second, .val (.long q2), .second, .val (.long q3), .second, .val (.int p4), .val (.ref b101), .val (.ref b111), .val (.ref b127), .val (.ref b149), .val (.int v5), .val (.int (1 : Int32)), .val (.ref b178), .val (.int (0 : Int32)), .val (.int (1 : Int32)), .val (.int (2 : Int32)), .val (.int (1 : Int32)), .val (.int v62), .val (.int (1 : Int32)), .val (.int v63), .unset, .unset, .unset, .unset, .unset] [(.int v5)])) (g' := (mkF m 270 #[.val (.long q0), .second, .val (.long q1), .second, .val (.long q2), .second, .val (.long q3), .second, .val (.int p4), .val (.ref b101), .val (.ref b111), .val (.ref b127), .val (.ref b149), .val (.int v5), .val (.int (1 : Int32)), .val (.ref b178), .val (.int (0 : Int32)), .val (.int (1 : Int32)), .val (.int (2 : Int32)), .val (.int (1 : Int32)), .val (.int v62), .val (.int (1 : Int32)), .val (.int v63), .unset, .unset, .unset, .unset, .unset] [(.int v62)])) X501 (by
        by_cases hc262_64 : v5 = (0 : Int32)
        · have hgo502 : ∀ t, Steps p.tables e below (T501.setTop (mkF m 270 #[.val (.long q0), .second, .val (.long q1), .second, .val (.long q2), .second, .val (.long q3), .second, .val (.int p4), .val (.ref b101), .val (.ref b111), .val (.ref b127), .val (.ref b149), .val (.int v5), .val (.int (1 : Int32)), .val (.ref b178), .val (.int (0 : Int32)), .val (.int (1 : Int32)), .val (.int (2 : Int32)), .val (.int (1 : Int32)), .val (.int v62), .val (.int (1 : Int32)), .val (.int v63), .unset, .unset, .unset, .unset, .unset] [(.int (-1 : Int32))])) t → Steps p.tables e below (T501.setTop (mkF m 262 #[.val (.long q0), .second, .val (.long q1), .second, .val (.long q2), .second, .val (.long q3), .second, .val (.int p4), .val (.ref b101), .val (.ref b111), .val (.ref b127), .val (.ref b149), .val (.int v5), .val (.int (1 : Int32)), .val (.ref b178), .val (.int (0 : Int32)), .val (.int (1 : Int32)), .val (.int (2 : Int32)), .val (.int (1 : Int32)), .val (.int v62), .val (.int (1 : Int32)), .val (.int v63), .unset, .unset, .unset, .unset, .unset] [(.int v5)])) t := by
            intro t kt
            show Steps p.tables e below (T501.setTop (mkF m 262 #[.val (.long q0), .second, .val (.long q1), .second, .val (.long q2), .second, .val (.long q3), .second, .val (.int p4), .val (.ref b101), .val (.ref b111), .val (.ref b127), .val (.ref b149), .val (.int v5), .val (.int (1 : Int32)), .val (.ref b178), .val (.int (0 : Int32)), .val (.int (1 : Int32)), .val (.int (2 : Int32)), .val (.int (1 : Int32)), .val (.int v62), .val (.int (1 : Int32)), .val (.int v63), .unset, .unset, .unset, .unset, .unset] [(.int v5)])) _
            refine XS.ifNo X501.here hx rfl (hb hby at_262) rfl ((if0 _ _).trans (teq hc262_64).2) ?_
            show Steps p.tables e below (T501.setTop (mkF m 265 #[.val (.long q0), .second, .val (.long q1), .second, .val (.long q2), .second, .val (.long q3), .second, .val (.int p4), .val (.ref b101), .val (.ref b111), .val (.ref b127), .val (.ref b149), .val (.int v5), .val (.int (1 : Int32)), .val (.ref b178), .val (.int (0 : Int32)), .val (.int (1 : Int32)), .val (.int (2 : Int32)), .val (.int (1 : Int32)), .val (.int v62), .val (.int (1 : Int32)), .val (.int v63), .unset, .unset, .unset, .unset, .unset] [])) _
            refine XS.iconst X501.here hx rfl (hb hby at_265) ?_
            refine XS.goto X501.here hx rfl (pc0 := 266) (pc' := 270) rfl (hb hby at_266) (by decide) (by decide) ?_
            exact kt
          refine own_arm hgo502 ?_
          exact own_armEnd X501 N501 e501 (by rw [hv62.trans (if_pos hc262_64)])
        · have hgo503 : ∀ t, Steps p.tables e below (T501.setTop (mkF m 270 #[.val (.long q0), .second, .val (.long q1), .second, .val (.long q2), .second, .val (.long q3), .second, .val (.int p4), .val (.ref b101), .val (.ref b111), .val (.ref b127), .val (.ref b149), .val (.int v5), .val (.int (1 : Int32)), .val (.ref b178), .val (.int (0 : Int32)), .val (.int (1 : Int32)), .val (.int (2 : Int32)), .val (.int (1 : Int32)), .val (.int v62), .val (.int (1 : Int32)), .val (.int v63), .unset, .unset, .unset, .unset, .unset] [(.int (0 : Int32))])) t → Steps p.tables e below (T501.setTop (mkF m 262 #[.val (.long q0), .second, .val (.long q1), .second, .val (.long q2), .second, .val (.long q3), .second, .val (.int p4), .val (.ref b101), .val (.ref b111), .val (.ref b127), .val (.ref b149), .val (.int v5), .val (.int (1 : Int32)), .val (.ref b178), .val (.int (0 : Int32)), .val (.int (1 : Int32)), .val (.int (2 : Int32)), .val (.int (1 : Int32)), .val (.int v62), .val (.int (1 : Int32)), .val (.int v63), .unset, .unset, .unset, .unset, .unset] [(.int v5)])) t := by
            intro t kt
            show Steps p.tables e below (T501.setTop (mkF m 262 #[.val (.long q0), .second, .val (.long q1), .second, .val (.long q2), .second, .val (.long q3), .second, .val (.int p4), .val (.ref b101), .val (.ref b111), .val (.ref b127), .val (.ref b149), .val (.int v5), .val (.int (1 : Int32)), .val (.ref b178), .val (.int (0 : Int32)), .val (.int (1 : Int32)), .val (.int (2 : Int32)), .val (.int (1 : Int32)), .val (.int v62), .val (.int (1 : Int32)), .val (.int v63), .unset, .unset, .unset, .unset, .unset] [(.int v5)])) _
            refine XS.ifYes X501.here hx rfl (pc0 := 262) (pc' := 269) rfl (hb hby at_262) rfl ((if0 _ _).trans (feq hc262_64).2) (by decide) (by decide) ?_
            show Steps p.tables e below (T501.setTop (mkF m 269 #[.val (.long q0), .second, .val (.long q1), .second, .val (.long q2), .second, .val (.long q3), .second, .val (.int p4), .val (.ref b101), .val (.ref b111), .val (.ref b127), .val (.ref b149), .val (.int v5), .val (.int (1 : Int32)), .val (.ref b178), .val (.int (0 : Int32)), .val (.int (1 : Int32)), .val (.int (2 : Int32)), .val (.int (1 : Int32)), .val (.int v62), .val (.int (1 : Int32)), .val (.int v63), .unset, .unset, .unset, .unset, .unset] [])) _
            refine XS.iconst X501.here hx rfl (hb hby at_269) ?_
            exact kt
          refine own_arm hgo503 ?_
          exact own_armEnd X501 N501 e501 (by rw [hv62.trans (if_neg hc262_64)]))
      obtain ⟨T507, lc507, X507, N507, e507, st507⟩ := own_mrg (n0 := n0) (h := T480.heap) (g := (mkF m 298 #[.val (.long q0), .second, .val (.long q1), .second, .val (.long q2), .second, .val (.long q3), .second, .val (.int p4), .val (.ref b101), .val (.ref b111), .val (.ref b127), .val (.ref b149), .val (.int v5), .val (.int (1 : Int32)), .val (.ref b178), .val (.int (0 : Int32)), .val (.int (1 : Int32)), .val (.int (2 : Int32)), .val (.int (1 : Int32)), .val (.int v62), .val (.int (1 : Int32)), .val (.int v63), .val (.int v62), .val (.int (1 : Int32)), .unset, .unset, .unset] [(.int (2 : Int32)), (.int v5)])) (g' := (mkF m 306 #[.val (.long q0), .second, .val (.long q1), .second, .val (.long q2), .second, .val (.long q3), .second, .val (.int p4), .val (.ref b101), .val (.ref b111), .val (.ref b127), .val (.ref b149), .val (.int v5), .val (.int (1 : Int32)), .val (.ref b178), .val (.int (0 : Int32)), .val (.int (1 : Int32)), .val (.int (2 : Int32)), .val (.int (1 : Int32)), .val (.int v62), .val (.int (1 : Int32)), .val (.int v63), .val (.int v62), .val (.int (1 : Int32)), .unset, .unset, .unset] [(.int v63)])) X504 (by
        by_cases hc298_65 : v5 = (2 : Int32)
        · have hgo505 : ∀ t, Steps p.tables e below (T504.setTop (mkF m 306 #[.val (.long q0), .second, .val (.long q1), .second, .val (.long q2), .second, .val (.long q3), .second, .val (.int p4), .val (.ref b101), .val (.ref b111), .val (.ref b127), .val (.ref b149), .val (.int v5), .val (.int (1 : Int32)), .val (.ref b178), .val (.int (0 : Int32)), .val (.int (1 : Int32)), .val (.int (2 : Int32)), .val (.int (1 : Int32)), .val (.int v62), .val (.int (1 : Int32)), .val (.int v63), .val (.int v62), .val (.int (1 : Int32)), .unset, .unset, .unset] [(.int (-1 : Int32))])) t → Steps p.tables e below (T504.setTop (mkF m 298 #[.val (.long q0), .second, .val (.long q1), .second, .val (.long q2), .second, .val (.long q3), .second, .val (.int p4), .val (.ref b101), .val (.ref b111), .val (.ref b127), .val (.ref b149), .val (.int v5), .val (.int (1 : Int32)), .val (.ref b178), .val (.int (0 : Int32)), .val (.int (1 : Int32)), .val (.int (2 : Int32)), .val (.int (1 : Int32)), .val (.int v62), .val (.int (1 : Int32)), .val (.int v63), .val (.int v62), .val (.int (1 : Int32)), .unset, .unset, .unset] [(.int (2 : Int32)), (.int v5)])) t := by
            intro t kt
            show Steps p.tables e below (T504.setTop (mkF m 298 #[.val (.long q0), .second, .val (.long q1), .second, .val (.long q2), .second, .val (.long q3), .second, .val (.int p4), .val (.ref b101), .val (.ref b111), .val (.ref b127), .val (.ref b149), .val (.int v5), .val (.int (1 : Int32)), .val (.ref b178), .val (.int (0 : Int32)), .val (.int (1 : Int32)), .val (.int (2 : Int32)), .val (.int (1 : Int32)), .val (.int v62), .val (.int (1 : Int32)), .val (.int v63), .val (.int v62), .val (.int (1 : Int32)), .unset, .unset, .unset] [(.int (2 : Int32)), (.int v5)])) _
            refine XS.icmpNo X504.here hx rfl (hb hby at_298) rfl (teq hc298_65).2 ?_
            show Steps p.tables e below (T504.setTop (mkF m 301 #[.val (.long q0), .second, .val (.long q1), .second, .val (.long q2), .second, .val (.long q3), .second, .val (.int p4), .val (.ref b101), .val (.ref b111), .val (.ref b127), .val (.ref b149), .val (.int v5), .val (.int (1 : Int32)), .val (.ref b178), .val (.int (0 : Int32)), .val (.int (1 : Int32)), .val (.int (2 : Int32)), .val (.int (1 : Int32)), .val (.int v62), .val (.int (1 : Int32)), .val (.int v63), .val (.int v62), .val (.int (1 : Int32)), .unset, .unset, .unset] [])) _
            refine XS.iconst X504.here hx rfl (hb hby at_301) ?_
            refine XS.goto X504.here hx rfl (pc0 := 302) (pc' := 306) rfl (hb hby at_302) (by decide) (by decide) ?_
            exact kt
          refine own_arm hgo505 ?_
          exact own_armEnd X504 N504 e504 (by rw [hv63.trans (if_pos hc298_65)])
        · have hgo506 : ∀ t, Steps p.tables e below (T504.setTop (mkF m 306 #[.val (.long q0), .second, .val (.long q1), .second, .val (.long q2), .second, .val (.long q3), .second, .val (.int p4), .val (.ref b101), .val (.ref b111), .val (.ref b127), .val (.ref b149), .val (.int v5), .val (.int (1 : Int32)), .val (.ref b178), .val (.int (0 : Int32)), .val (.int (1 : Int32)), .val (.int (2 : Int32)), .val (.int (1 : Int32)), .val (.int v62), .val (.int (1 : Int32)), .val (.int v63), .val (.int v62), .val (.int (1 : Int32)), .unset, .unset, .unset] [(.int (2 : Int32))])) t → Steps p.tables e below (T504.setTop (mkF m 298 #[.val (.long q0), .second, .val (.long q1), .second, .val (.long q2), .second, .val (.long q3), .second, .val (.int p4), .val (.ref b101), .val (.ref b111), .val (.ref b127), .val (.ref b149), .val (.int v5), .val (.int (1 : Int32)), .val (.ref b178), .val (.int (0 : Int32)), .val (.int (1 : Int32)), .val (.int (2 : Int32)), .val (.int (1 : Int32)), .val (.int v62), .val (.int (1 : Int32)), .val (.int v63), .val (.int v62), .val (.int (1 : Int32)), .unset, .unset, .unset] [(.int (2 : Int32)), (.int v5)])) t := by
            intro t kt
            show Steps p.tables e below (T504.setTop (mkF m 298 #[.val (.long q0), .second, .val (.long q1), .second, .val (.long q2), .second, .val (.long q3), .second, .val (.int p4), .val (.ref b101), .val (.ref b111), .val (.ref b127), .val (.ref b149), .val (.int v5), .val (.int (1 : Int32)), .val (.ref b178), .val (.int (0 : Int32)), .val (.int (1 : Int32)), .val (.int (2 : Int32)), .val (.int (1 : Int32)), .val (.int v62), .val (.int (1 : Int32)), .val (.int v63), .val (.int v62), .val (.int (1 : Int32)), .unset, .unset, .unset] [(.int (2 : Int32)), (.int v5)])) _
            refine XS.icmpYes X504.here hx rfl (pc0 := 298) (pc' := 305) rfl (hb hby at_298) rfl (feq hc298_65).2 (by decide) (by decide) ?_
            show Steps p.tables e below (T504.setTop (mkF m 305 #[.val (.long q0), .second, .val (.long q1), .second, .val (.long q2), .second, .val (.long q3), .second, .val (.int p4), .val (.ref b101), .val (.ref b111), .val (.ref b127), .val (.ref b149), .val (.int v5), .val (.int (1 : Int32)), .val (.ref b178), .val (.int (0 : Int32)), .val (.int (1 : Int32)), .val (.int (2 : Int32)), .val (.int (1 : Int32)), .val (.int v62), .val (.int (1 : Int32)), .val (.int v63), .val (.int v62), .val (.int (1 : Int32)), .unset, .unset, .unset] [])) _
            refine XS.iconst X504.here hx rfl (hb hby at_305) ?_
            exact kt
          refine own_arm hgo506 ?_
          exact own_armEnd X504 N504 e504 (by rw [hv63.trans (if_neg hc298_65)]))
      obtain ⟨cq508, kq508, q508a, q508b, q508c⟩ := isOf hZ e507 F480_2
      obtain ⟨_, _, ⟨T508, L508, k508, n508⟩, -, X508, ⟨Lc508, hQ508, l508, y508, z508⟩, st508⟩ := X507.virtualBack hx (y := (⟨"com/example/upper_falls/upperfalls/HeldKeys", "hold", "(Lcom/example/upper_falls/upperfalls/KeyHash;)I"⟩ : MethodName)) (z := (⟨"com/example/upper_falls/upperfalls/HeldKeys", "hold", "(Lcom/example/upper_falls/upperfalls/KeyHash;)I"⟩ : MethodName)) hown (mvT hZ (own_wd hw 71 rfl)) (mvT hZ (own_wd hw 72 rfl)) (notFace_of_selects (args := #[]) (mvT hZ (own_wd hw 74 rfl))) (mvT hZ (own_wd hw 74 rfl)) (mvT hZ (own_wd hw 73 rfl)) (by decide) (backOf (W := 0) (rmhf l Z a0 hw [] b178 b149 b202_0 b202_1 b202_2 b202_3 b202_4 b202_5 v23 v24 v25 v59 v61 v60 v4 (3 : Int64) (3 : Int32) (3 : Int32) 3 (own_E (own_F4 ((v1.toInt32) &&& (31 : Int32)) ((v2.toInt32) &&& (31 : Int32)) ((v3.toInt32) &&& (31 : Int32)) v5) ((v4.toInt32) &&& (31 : Int32))) (T480.heap) n0 Z497 F480_2 F480_3 F480_4 F480_5 F480_6 F480_7 F480_8 F480_9 F480_10 F480_11 F494 F495 F496 F480_0n F480_12n F480_1n F490 F491 F492 ((by rw [hF4]; exact V4) : own_V 3 v60) ((own_Mk (t := 3) (by decide) (by decide) rfl rfl G3 (fun q => absurd q (by decide))) : own_M 3 v23 v24 (3 : Int32) v4 (3 : Int64)) (by decide : 3 ≤ 3) ((by rw [hF4]; exact ck3) : own_fnd v60 (3 : Int32) 8 ((v4.toInt32) &&& (31 : Int32)) = some (-1 : Int32)) ((by rw [hv61]; exact rl1) : (¬ (v61 0) < 0 ∧ (v61 0).toNatClampNeg < 16)) ((by rw [hF4]; exact cz3) : own_emp v60 8 ((v4.toInt32) &&& (31 : Int32)) = some (own_E (own_F4 ((v1.toInt32) &&& (31 : Int32)) ((v2.toInt32) &&& (31 : Int32)) ((v3.toInt32) &&& (31 : Int32)) v5) ((v4.toInt32) &&& (31 : Int32)))) (Ne.symm ne_b178_b202_0) (Ne.symm ne_b178_b202_1) (Ne.symm ne_b178_b202_2) (Ne.symm ne_b178_b202_3) (Ne.symm ne_b178_b202_4) (Ne.symm ne_b178_b202_5) ne_b149_b178 g_b178 ne_b178_b202_0 (Ne.symm F202_6) (Ne.symm F202_7) (Ne.symm F202_8) (Ne.symm F202_9) (Ne.symm F202_10) ne_b149_b202_0 g_b202_0 ne_b178_b202_1 (Ne.symm F202_11) (Ne.symm F202_12) (Ne.symm F202_13) (Ne.symm F202_14) ne_b149_b202_1 F202_6 g_b202_1 ne_b178_b202_2 (Ne.symm F202_15) (Ne.symm F202_16) (Ne.symm F202_17) ne_b149_b202_2 F202_7 F202_11 g_b202_2 ne_b178_b202_5 F202_19 F202_20 ne_b149_b202_5 F202_10 F202_14 F202_17 g_b202_5 ne_b178_b202_3 (Ne.symm F202_18) ne_b149_b202_3 F202_8 F202_12 F202_15 (Ne.symm F202_19) g_b202_3) hZ (own_wd hw 75 rfl) (own_wd hw 27 rfl) (by decide) (by decide)) q508a q508c (g := (mkF m 312 #[.val (.long q0), .second, .val (.long q1), .second, .val (.long q2), .second, .val (.long q3), .second, .val (.int p4), .val (.ref b101), .val (.ref b111), .val (.ref b127), .val (.ref b149), .val (.int v5), .val (.int (1 : Int32)), .val (.ref b178), .val (.int (0 : Int32)), .val (.int (1 : Int32)), .val (.int (2 : Int32)), .val (.int (1 : Int32)), .val (.int v62), .val (.int (1 : Int32)), .val (.int v63), .val (.int v62), .val (.int (1 : Int32)), .val (.int v63), .unset, .unset] [(.ref b149), (.ref b178)])) rfl (by rw [hml]; rfl) (Steps.refl _) (argsL := [(.ref b149)]) (rest := []) (lenOf pd13 rfl) rfl (by show 2 * 0 + _ ≤ _; exact Nat.le_of_eq rfl) (hb hby at_312) (fun _ _ => ⟨rfl, e507, (by decide : 11 + 0 ≤ _), (by decide : 129 + 0 ≤ _)⟩)
      dsimp only [Pt.U, Pt.locs, Pt.cells, Pt.slots] at X508 l508 y508 z508 st508 hQ508
      subst l508 y508 z508
      obtain ⟨rfl, N508q, K508q, F508_0, F508_1, F508_2, F508_3, F508_4, F508_5, F508_6, F508_7, F508_8, F508_9, F508_10, F508_11, F508_12, F508_13, F508_14⟩ := hQ508
      have F509 := F481.keep K508q
      have F510 := F482.keep K508q (ninS ne_b101_b178 (ninS ne_b101_b202_0 (ninS ne_b101_b202_1 (ninS ne_b101_b202_2 (ninS ne_b101_b202_5 (ninS ne_b101_b202_3 nin0))))))
      have F511 := F483.keep K508q (ninS ne_b101_b178 (ninS ne_b101_b202_0 (ninS ne_b101_b202_1 (ninS ne_b101_b202_2 (ninS ne_b101_b202_5 (ninS ne_b101_b202_3 nin0))))))
      have F512 := F484.keep K508q
      have F513 := F485.keep K508q (ninS ne_b111_b178 (ninS ne_b111_b202_0 (ninS ne_b111_b202_1 (ninS ne_b111_b202_2 (ninS ne_b111_b202_5 (ninS ne_b111_b202_3 nin0))))))
      have F514 := F486.keep K508q (ninS ne_b111_b178 (ninS ne_b111_b202_0 (ninS ne_b111_b202_1 (ninS ne_b111_b202_2 (ninS ne_b111_b202_5 (ninS ne_b111_b202_3 nin0))))))
      have F515 := F487.keep K508q
      have F516 := F488.keep K508q (ninS ne_b127_b178 (ninS ne_b127_b202_0 (ninS ne_b127_b202_1 (ninS ne_b127_b202_2 (ninS ne_b127_b202_5 (ninS ne_b127_b202_3 nin0))))))
      have F517 := F489.keep K508q (ninS ne_b127_b178 (ninS ne_b127_b202_0 (ninS ne_b127_b202_1 (ninS ne_b127_b202_2 (ninS ne_b127_b202_5 (ninS ne_b127_b202_3 nin0))))))
      have F518 := F490.keep K508q
      have F519 := F491.keep K508q (ninS ne_b149_b178 (ninS ne_b149_b202_0 (ninS ne_b149_b202_1 (ninS ne_b149_b202_2 (ninS ne_b149_b202_5 (ninS ne_b149_b202_3 nin0))))))
      have F520 := F492.keep K508q (ninS ne_b149_b178 (ninS ne_b149_b202_0 (ninS ne_b149_b202_1 (ninS ne_b149_b202_2 (ninS ne_b149_b202_5 (ninS ne_b149_b202_3 nin0))))))
      have F521 := F480_2.keep K508q
      have F522 := F480_12n.keep K508q (ninS (Ne.symm ne_b178_b202_4) (ninS (Ne.symm F202_9) (ninS (Ne.symm F202_13) (ninS (Ne.symm F202_16) (ninS F202_20 (ninS (Ne.symm F202_18) nin0))))))
      have Z523 : n0 ≤ T508.heap.size := Nat.le_trans Z497 K508q.1
      have K524 : Keep h0 T508.heap [] := K498.trans K508q (allS (Or.inr sz_b178) (allS (Or.inr sz_b202_0) (allS (Or.inr sz_b202_1) (allS (Or.inr sz_b202_2) (allS (Or.inr sz_b202_5) (allS (Or.inr sz_b202_3) all0))))))
      obtain ⟨v66, hv66⟩ : ∃ z : Nat → Int64, z = (own_up v23 ((v61 0).toNatClampNeg) v4) := ⟨_, rfl⟩
      have F508_10n : own_AJ Z T508.heap b202_0 .long 16 v66 := by rw [hv66]; exact F508_10
      obtain ⟨v67, hv67⟩ : ∃ z : Nat → Int64, z = (own_up v24 ((v61 0).toNatClampNeg) (3 : Int64)) := ⟨_, rfl⟩
      have F508_11n : own_AJ Z T508.heap b202_1 .long 16 v67 := by rw [hv67]; exact F508_11
      obtain ⟨v68, hv68⟩ : ∃ z : Nat → Int64, z = (own_up v25 ((v61 0).toNatClampNeg) (0 : Int64)) := ⟨_, rfl⟩
      have F508_12n : own_AJ Z T508.heap b202_2 .long 16 v68 := by rw [hv68]; exact F508_12
      obtain ⟨v69, hv69⟩ : ∃ z : Nat → Int32, z = (own_up v60 ((own_E (own_F4 ((v1.toInt32) &&& (31 : Int32)) ((v2.toInt32) &&& (31 : Int32)) ((v3.toInt32) &&& (31 : Int32)) v5) ((v4.toInt32) &&& (31 : Int32))).toNatClampNeg) (v61 0)) := ⟨_, rfl⟩
      have F508_13n : own_AI Z T508.heap b202_5 .int 32 v69 := by rw [hv69]; exact F508_13
      obtain ⟨v70, hv70⟩ : ∃ z : Nat → Int32, z = (own_up v59 ((v61 0).toNatClampNeg) ((v59 (v61 0).toNatClampNeg) + (1 : Int32))) := ⟨_, rfl⟩
      have F508_14n : own_AI Z T508.heap b202_3 .int 16 v70 := by rw [hv70]; exact F508_14
      have N508 := Fr.app N507 N508q
      obtain ⟨v71, hv71⟩ : ∃ z : Int32, z = (v61 0) := ⟨_, rfl⟩
      have hgo525 : ∀ t, Steps p.tables e below (T508.setTop (mkF m 363 #[.val (.long q0), .second, .val (.long q1), .second, .val (.long q2), .second, .val (.long q3), .second, .val (.int p4), .val (.ref b101), .val (.ref b111), .val (.ref b127), .val (.ref b149), .val (.int v5), .val (.int (1 : Int32)), .val (.ref b178), .val (.int (0 : Int32)), .val (.int (1 : Int32)), .val (.int (2 : Int32)), .val (.int (1 : Int32)), .val (.int v62), .val (.int (1 : Int32)), .val (.int v63), .val (.int v62), .val (.int (1 : Int32)), .val (.int v63), .val (.int v71), .val (.int v5)] [(.int (1 : Int32))])) t → Steps p.tables e below (T398.setTop (mkF m 207 #[.val (.long q0), .second, .val (.long q1), .second, .val (.long q2), .second, .val (.long q3), .second, .val (.int p4), .val (.ref b101), .val (.ref b111), .val (.ref b127), .val (.ref b149), .val (.int v5), .val (.int (1 : Int32)), .val (.ref b178), .val (.int (0 : Int32)), .val (.int (1 : Int32)), .val (.int (2 : Int32)), .unset, .unset, .unset, .unset, .unset, .unset, .unset, .unset, .unset] [])) t := by
        intro t kt
        show Steps p.tables e below (T398.setTop (mkF m 207 #[.val (.long q0), .second, .val (.long q1), .second, .val (.long q2), .second, .val (.long q3), .second, .val (.int p4), .val (.ref b101), .val (.ref b111), .val (.ref b127), .val (.ref b149), .val (.int v5), .val (.int (1 : Int32)), .val (.ref b178), .val (.int (0 : Int32)), .val (.int (1 : Int32)), .val (.int (2 : Int32)), .unset, .unset, .unset, .unset, .unset, .unset, .unset, .unset, .unset] [])) _
        refine XS.aload X398.here hx rfl (hb hby at_207) rfl rfl ?_
        refine XS.iload X398.here hx rfl (hb hby at_209) rfl ?_
        show Steps p.tables e below (T398.setTop (mkF m 211 #[.val (.long q0), .second, .val (.long q1), .second, .val (.long q2), .second, .val (.long q3), .second, .val (.int p4), .val (.ref b101), .val (.ref b111), .val (.ref b127), .val (.ref b149), .val (.int v5), .val (.int (1 : Int32)), .val (.ref b178), .val (.int (0 : Int32)), .val (.int (1 : Int32)), .val (.int (2 : Int32)), .unset, .unset, .unset, .unset, .unset, .unset, .unset, .unset, .unset] [(.int v5), (.ref b178)])) _
        refine st480.trans ?_
        show Steps p.tables e below (T480.setTop (mkF m 214 #[.val (.long q0), .second, .val (.long q1), .second, .val (.long q2), .second, .val (.long q3), .second, .val (.int p4), .val (.ref b101), .val (.ref b111), .val (.ref b127), .val (.ref b149), .val (.int v5), .val (.int (1 : Int32)), .val (.ref b178), .val (.int (0 : Int32)), .val (.int (1 : Int32)), .val (.int (2 : Int32)), .unset, .unset, .unset, .unset, .unset, .unset, .unset, .unset, .unset] [])) _
        refine XS.iload X480.here hx rfl (hb hby at_214) rfl ?_
        refine XS.iload X480.here hx rfl (hb hby at_216) rfl ?_
        refine XS.icmpNo X480.here hx rfl (hb hby at_218) rfl (feq (fun q => hs207_52 q.symm)).1 ?_
        show Steps p.tables e below (T480.setTop (mkF m 221 #[.val (.long q0), .second, .val (.long q1), .second, .val (.long q2), .second, .val (.long q3), .second, .val (.int p4), .val (.ref b101), .val (.ref b111), .val (.ref b127), .val (.ref b149), .val (.int v5), .val (.int (1 : Int32)), .val (.ref b178), .val (.int (0 : Int32)), .val (.int (1 : Int32)), .val (.int (2 : Int32)), .unset, .unset, .unset, .unset, .unset, .unset, .unset, .unset, .unset] [])) _
        refine XS.iconst X480.here hx rfl (hb hby at_221) ?_
        refine XS.goto X480.here hx rfl (pc0 := 222) (pc' := 226) rfl (hb hby at_222) (by decide) (by decide) ?_
        show Steps p.tables e below (T480.setTop (mkF m 226 #[.val (.long q0), .second, .val (.long q1), .second, .val (.long q2), .second, .val (.long q3), .second, .val (.int p4), .val (.ref b101), .val (.ref b111), .val (.ref b127), .val (.ref b149), .val (.int v5), .val (.int (1 : Int32)), .val (.ref b178), .val (.int (0 : Int32)), .val (.int (1 : Int32)), .val (.int (2 : Int32)), .unset, .unset, .unset, .unset, .unset, .unset, .unset, .unset, .unset] [(.int (1 : Int32))])) _
        refine XS.istore X480.here hx rfl (hb hby at_226) rfl (l' := #[.val (.long q0), .second, .val (.long q1), .second, .val (.long q2), .second, .val (.long q3), .second, .val (.int p4), .val (.ref b101), .val (.ref b111), .val (.ref b127), .val (.ref b149), .val (.int v5), .val (.int (1 : Int32)), .val (.ref b178), .val (.int (0 : Int32)), .val (.int (1 : Int32)), .val (.int (2 : Int32)), .val (.int (1 : Int32)), .unset, .unset, .unset, .unset, .unset, .unset, .unset, .unset]) rfl ?_
        show Steps p.tables e below (T480.setTop (mkF m 228 #[.val (.long q0), .second, .val (.long q1), .second, .val (.long q2), .second, .val (.long q3), .second, .val (.int p4), .val (.ref b101), .val (.ref b111), .val (.ref b127), .val (.ref b149), .val (.int v5), .val (.int (1 : Int32)), .val (.ref b178), .val (.int (0 : Int32)), .val (.int (1 : Int32)), .val (.int (2 : Int32)), .val (.int (1 : Int32)), .unset, .unset, .unset, .unset, .unset, .unset, .unset, .unset] [])) _
        refine XS.aload X480.here hx rfl (hb hby at_228) rfl rfl ?_
        refine XS.aload X480.here hx rfl (hb hby at_230) rfl rfl ?_
        show Steps p.tables e below (T480.setTop (mkF m 232 #[.val (.long q0), .second, .val (.long q1), .second, .val (.long q2), .second, .val (.long q3), .second, .val (.int p4), .val (.ref b101), .val (.ref b111), .val (.ref b127), .val (.ref b149), .val (.int v5), .val (.int (1 : Int32)), .val (.ref b178), .val (.int (0 : Int32)), .val (.int (1 : Int32)), .val (.int (2 : Int32)), .val (.int (1 : Int32)), .unset, .unset, .unset, .unset, .unset, .unset, .unset, .unset] [(.ref b101), (.ref b178)])) _
        refine st499.trans ?_
        show Steps p.tables e below (T499.setTop (mkF m 235 #[.val (.long q0), .second, .val (.long q1), .second, .val (.long q2), .second, .val (.long q3), .second, .val (.int p4), .val (.ref b101), .val (.ref b111), .val (.ref b127), .val (.ref b149), .val (.int v5), .val (.int (1 : Int32)), .val (.ref b178), .val (.int (0 : Int32)), .val (.int (1 : Int32)), .val (.int (2 : Int32)), .val (.int (1 : Int32)), .unset, .unset, .unset, .unset, .unset, .unset, .unset, .unset] [(.int (if v5 = (0 : Int32) then (-1 : Int32) else (0 : Int32)))])) _
        rw [← hv62]
        show Steps p.tables e below (T499.setTop (mkF m 235 #[.val (.long q0), .second, .val (.long q1), .second, .val (.long q2), .second, .val (.long q3), .second, .val (.int p4), .val (.ref b101), .val (.ref b111), .val (.ref b127), .val (.ref b149), .val (.int v5), .val (.int (1 : Int32)), .val (.ref b178), .val (.int (0 : Int32)), .val (.int (1 : Int32)), .val (.int (2 : Int32)), .val (.int (1 : Int32)), .unset, .unset, .unset, .unset, .unset, .unset, .unset, .unset] [(.int v62)])) _
        refine XS.istore X499.here hx rfl (hb hby at_235) rfl (l' := #[.val (.long q0), .second, .val (.long q1), .second, .val (.long q2), .second, .val (.long q3), .second, .val (.int p4), .val (.ref b101), .val (.ref b111), .val (.ref b127), .val (.ref b149), .val (.int v5), .val (.int (1 : Int32)), .val (.ref b178), .val (.int (0 : Int32)), .val (.int (1 : Int32)), .val (.int (2 : Int32)), .val (.int (1 : Int32)), .val (.int v62), .unset, .unset, .unset, .unset, .unset, .unset, .unset]) rfl ?_
        show Steps p.tables e below (T499.setTop (mkF m 237 #[.val (.long q0), .second, .val (.long q1), .second, .val (.long q2), .second, .val (.long q3), .second, .val (.int p4), .val (.ref b101), .val (.ref b111), .val (.ref b127), .val (.ref b149), .val (.int v5), .val (.int (1 : Int32)), .val (.ref b178), .val (.int (0 : Int32)), .val (.int (1 : Int32)), .val (.int (2 : Int32)), .val (.int (1 : Int32)), .val (.int v62), .unset, .unset, .unset, .unset, .unset, .unset, .unset] [])) _
        refine XS.aload X499.here hx rfl (hb hby at_237) rfl rfl ?_
        refine XS.aload X499.here hx rfl (hb hby at_239) rfl rfl ?_
        show Steps p.tables e below (T499.setTop (mkF m 241 #[.val (.long q0), .second, .val (.long q1), .second, .val (.long q2), .second, .val (.long q3), .second, .val (.int p4), .val (.ref b101), .val (.ref b111), .val (.ref b127), .val (.ref b149), .val (.int v5), .val (.int (1 : Int32)), .val (.ref b178), .val (.int (0 : Int32)), .val (.int (1 : Int32)), .val (.int (2 : Int32)), .val (.int (1 : Int32)), .val (.int v62), .unset, .unset, .unset, .unset, .unset, .unset, .unset] [(.ref b111), (.ref b178)])) _
        refine st500.trans ?_
        show Steps p.tables e below (T500.setTop (mkF m 244 #[.val (.long q0), .second, .val (.long q1), .second, .val (.long q2), .second, .val (.long q3), .second, .val (.int p4), .val (.ref b101), .val (.ref b111), .val (.ref b127), .val (.ref b149), .val (.int v5), .val (.int (1 : Int32)), .val (.ref b178), .val (.int (0 : Int32)), .val (.int (1 : Int32)), .val (.int (2 : Int32)), .val (.int (1 : Int32)), .val (.int v62), .unset, .unset, .unset, .unset, .unset, .unset, .unset] [(.int (1 : Int32))])) _
        refine XS.istore X500.here hx rfl (hb hby at_244) rfl (l' := #[.val (.long q0), .second, .val (.long q1), .second, .val (.long q2), .second, .val (.long q3), .second, .val (.int p4), .val (.ref b101), .val (.ref b111), .val (.ref b127), .val (.ref b149), .val (.int v5), .val (.int (1 : Int32)), .val (.ref b178), .val (.int (0 : Int32)), .val (.int (1 : Int32)), .val (.int (2 : Int32)), .val (.int (1 : Int32)), .val (.int v62), .val (.int (1 : Int32)), .unset, .unset, .unset, .unset, .unset, .unset]) rfl ?_
        show Steps p.tables e below (T500.setTop (mkF m 246 #[.val (.long q0), .second, .val (.long q1), .second, .val (.long q2), .second, .val (.long q3), .second, .val (.int p4), .val (.ref b101), .val (.ref b111), .val (.ref b127), .val (.ref b149), .val (.int v5), .val (.int (1 : Int32)), .val (.ref b178), .val (.int (0 : Int32)), .val (.int (1 : Int32)), .val (.int (2 : Int32)), .val (.int (1 : Int32)), .val (.int v62), .val (.int (1 : Int32)), .unset, .unset, .unset, .unset, .unset, .unset] [])) _
        refine XS.aload X500.here hx rfl (hb hby at_246) rfl rfl ?_
        refine XS.aload X500.here hx rfl (hb hby at_248) rfl rfl ?_
        show Steps p.tables e below (T500.setTop (mkF m 250 #[.val (.long q0), .second, .val (.long q1), .second, .val (.long q2), .second, .val (.long q3), .second, .val (.int p4), .val (.ref b101), .val (.ref b111), .val (.ref b127), .val (.ref b149), .val (.int v5), .val (.int (1 : Int32)), .val (.ref b178), .val (.int (0 : Int32)), .val (.int (1 : Int32)), .val (.int (2 : Int32)), .val (.int (1 : Int32)), .val (.int v62), .val (.int (1 : Int32)), .unset, .unset, .unset, .unset, .unset, .unset] [(.ref b127), (.ref b178)])) _
        refine st501.trans ?_
        show Steps p.tables e below (T501.setTop (mkF m 253 #[.val (.long q0), .second, .val (.long q1), .second, .val (.long q2), .second, .val (.long q3), .second, .val (.int p4), .val (.ref b101), .val (.ref b111), .val (.ref b127), .val (.ref b149), .val (.int v5), .val (.int (1 : Int32)), .val (.ref b178), .val (.int (0 : Int32)), .val (.int (1 : Int32)), .val (.int (2 : Int32)), .val (.int (1 : Int32)), .val (.int v62), .val (.int (1 : Int32)), .unset, .unset, .unset, .unset, .unset, .unset] [(.int (if v5 = (2 : Int32) then (-1 : Int32) else (2 : Int32)))])) _
        rw [← hv63]
        show Steps p.tables e below (T501.setTop (mkF m 253 #[.val (.long q0), .second, .val (.long q1), .second, .val (.long q2), .second, .val (.long q3), .second, .val (.int p4), .val (.ref b101), .val (.ref b111), .val (.ref b127), .val (.ref b149), .val (.int v5), .val (.int (1 : Int32)), .val (.ref b178), .val (.int (0 : Int32)), .val (.int (1 : Int32)), .val (.int (2 : Int32)), .val (.int (1 : Int32)), .val (.int v62), .val (.int (1 : Int32)), .unset, .unset, .unset, .unset, .unset, .unset] [(.int v63)])) _
        refine XS.istore X501.here hx rfl (hb hby at_253) rfl (l' := #[.val (.long q0), .second, .val (.long q1), .second, .val (.long q2), .second, .val (.long q3), .second, .val (.int p4), .val (.ref b101), .val (.ref b111), .val (.ref b127), .val (.ref b149), .val (.int v5), .val (.int (1 : Int32)), .val (.ref b178), .val (.int (0 : Int32)), .val (.int (1 : Int32)), .val (.int (2 : Int32)), .val (.int (1 : Int32)), .val (.int v62), .val (.int (1 : Int32)), .val (.int v63), .unset, .unset, .unset, .unset, .unset]) rfl ?_
        show Steps p.tables e below (T501.setTop (mkF m 255 #[.val (.long q0), .second, .val (.long q1), .second, .val (.long q2), .second, .val (.long q3), .second, .val (.int p4), .val (.ref b101), .val (.ref b111), .val (.ref b127), .val (.ref b149), .val (.int v5), .val (.int (1 : Int32)), .val (.ref b178), .val (.int (0 : Int32)), .val (.int (1 : Int32)), .val (.int (2 : Int32)), .val (.int (1 : Int32)), .val (.int v62), .val (.int (1 : Int32)), .val (.int v63), .unset, .unset, .unset, .unset, .unset] [])) _
        refine XS.iload X501.here hx rfl (hb hby at_255) rfl ?_
        refine XS.ifNo X501.here hx rfl (hb hby at_257) rfl ((if0 _ _).trans (feq (by decide : ¬ ((1 : Int32) = (0 : Int32)))).1) ?_
        show Steps p.tables e below (T501.setTop (mkF m 260 #[.val (.long q0), .second, .val (.long q1), .second, .val (.long q2), .second, .val (.long q3), .second, .val (.int p4), .val (.ref b101), .val (.ref b111), .val (.ref b127), .val (.ref b149), .val (.int v5), .val (.int (1 : Int32)), .val (.ref b178), .val (.int (0 : Int32)), .val (.int (1 : Int32)), .val (.int (2 : Int32)), .val (.int (1 : Int32)), .val (.int v62), .val (.int (1 : Int32)), .val (.int v63), .unset, .unset, .unset, .unset, .unset] [])) _
        refine XS.iload X501.here hx rfl (hb hby at_260) rfl ?_
        show Steps p.tables e below (T501.setTop (mkF m 262 #[.val (.long q0), .second, .val (.long q1), .second, .val (.long q2), .second, .val (.long q3), .second, .val (.int p4), .val (.ref b101), .val (.ref b111), .val (.ref b127), .val (.ref b149), .val (.int v5), .val (.int (1 : Int32)), .val (.ref b178), .val (.int (0 : Int32)), .val (.int (1 : Int32)), .val (.int (2 : Int32)), .val (.int (1 : Int32)), .val (.int v62), .val (.int (1 : Int32)), .val (.int v63), .unset, .unset, .unset, .unset, .unset] [(.int v5)])) _
        refine st504 _ ?_
        show Steps p.tables e below (T504.setTop (mkF m 270 #[.val (.long q0), .second, .val (.long q1), .second, .val (.long q2), .second, .val (.long q3), .second, .val (.int p4), .val (.ref b101), .val (.ref b111), .val (.ref b127), .val (.ref b149), .val (.int v5), .val (.int (1 : Int32)), .val (.ref b178), .val (.int (0 : Int32)), .val (.int (1 : Int32)), .val (.int (2 : Int32)), .val (.int (1 : Int32)), .val (.int v62), .val (.int (1 : Int32)), .val (.int v63), .unset, .unset, .unset, .unset, .unset] [(.int v62)])) _
        refine XS.istore X504.here hx rfl (hb hby at_270) rfl (l' := #[.val (.long q0), .second, .val (.long q1), .second, .val (.long q2), .second, .val (.long q3), .second, .val (.int p4), .val (.ref b101), .val (.ref b111), .val (.ref b127), .val (.ref b149), .val (.int v5), .val (.int (1 : Int32)), .val (.ref b178), .val (.int (0 : Int32)), .val (.int (1 : Int32)), .val (.int (2 : Int32)), .val (.int (1 : Int32)), .val (.int v62), .val (.int (1 : Int32)), .val (.int v63), .val (.int v62), .unset, .unset, .unset, .unset]) rfl ?_
        show Steps p.tables e below (T504.setTop (mkF m 272 #[.val (.long q0), .second, .val (.long q1), .second, .val (.long q2), .second, .val (.long q3), .second, .val (.int p4), .val (.ref b101), .val (.ref b111), .val (.ref b127), .val (.ref b149), .val (.int v5), .val (.int (1 : Int32)), .val (.ref b178), .val (.int (0 : Int32)), .val (.int (1 : Int32)), .val (.int (2 : Int32)), .val (.int (1 : Int32)), .val (.int v62), .val (.int (1 : Int32)), .val (.int v63), .val (.int v62), .unset, .unset, .unset, .unset] [])) _
        refine XS.iload X504.here hx rfl (hb hby at_272) rfl ?_
        refine XS.ifNo X504.here hx rfl (hb hby at_274) rfl ((if0 _ _).trans (feq (by decide : ¬ ((1 : Int32) = (0 : Int32)))).1) ?_
        show Steps p.tables e below (T504.setTop (mkF m 277 #[.val (.long q0), .second, .val (.long q1), .second, .val (.long q2), .second, .val (.long q3), .second, .val (.int p4), .val (.ref b101), .val (.ref b111), .val (.ref b127), .val (.ref b149), .val (.int v5), .val (.int (1 : Int32)), .val (.ref b178), .val (.int (0 : Int32)), .val (.int (1 : Int32)), .val (.int (2 : Int32)), .val (.int (1 : Int32)), .val (.int v62), .val (.int (1 : Int32)), .val (.int v63), .val (.int v62), .unset, .unset, .unset, .unset] [])) _
        refine XS.iload X504.here hx rfl (hb hby at_277) rfl ?_
        refine XS.iconst X504.here hx rfl (hb hby at_279) ?_
        refine XS.icmpYes X504.here hx rfl (pc0 := 280) (pc' := 287) rfl (hb hby at_280) rfl (feq hs207_52).2 (by decide) (by decide) ?_
        show Steps p.tables e below (T504.setTop (mkF m 287 #[.val (.long q0), .second, .val (.long q1), .second, .val (.long q2), .second, .val (.long q3), .second, .val (.int p4), .val (.ref b101), .val (.ref b111), .val (.ref b127), .val (.ref b149), .val (.int v5), .val (.int (1 : Int32)), .val (.ref b178), .val (.int (0 : Int32)), .val (.int (1 : Int32)), .val (.int (2 : Int32)), .val (.int (1 : Int32)), .val (.int v62), .val (.int (1 : Int32)), .val (.int v63), .val (.int v62), .unset, .unset, .unset, .unset] [])) _
        refine XS.iconst X504.here hx rfl (hb hby at_287) ?_
        refine XS.istore X504.here hx rfl (hb hby at_288) rfl (l' := #[.val (.long q0), .second, .val (.long q1), .second, .val (.long q2), .second, .val (.long q3), .second, .val (.int p4), .val (.ref b101), .val (.ref b111), .val (.ref b127), .val (.ref b149), .val (.int v5), .val (.int (1 : Int32)), .val (.ref b178), .val (.int (0 : Int32)), .val (.int (1 : Int32)), .val (.int (2 : Int32)), .val (.int (1 : Int32)), .val (.int v62), .val (.int (1 : Int32)), .val (.int v63), .val (.int v62), .val (.int (1 : Int32)), .unset, .unset, .unset]) rfl ?_
        show Steps p.tables e below (T504.setTop (mkF m 290 #[.val (.long q0), .second, .val (.long q1), .second, .val (.long q2), .second, .val (.long q3), .second, .val (.int p4), .val (.ref b101), .val (.ref b111), .val (.ref b127), .val (.ref b149), .val (.int v5), .val (.int (1 : Int32)), .val (.ref b178), .val (.int (0 : Int32)), .val (.int (1 : Int32)), .val (.int (2 : Int32)), .val (.int (1 : Int32)), .val (.int v62), .val (.int (1 : Int32)), .val (.int v63), .val (.int v62), .val (.int (1 : Int32)), .unset, .unset, .unset] [])) _
        refine XS.iload X504.here hx rfl (hb hby at_290) rfl ?_
        refine XS.ifNo X504.here hx rfl (hb hby at_292) rfl ((if0 _ _).trans (feq (by decide : ¬ ((1 : Int32) = (0 : Int32)))).1) ?_
        show Steps p.tables e below (T504.setTop (mkF m 295 #[.val (.long q0), .second, .val (.long q1), .second, .val (.long q2), .second, .val (.long q3), .second, .val (.int p4), .val (.ref b101), .val (.ref b111), .val (.ref b127), .val (.ref b149), .val (.int v5), .val (.int (1 : Int32)), .val (.ref b178), .val (.int (0 : Int32)), .val (.int (1 : Int32)), .val (.int (2 : Int32)), .val (.int (1 : Int32)), .val (.int v62), .val (.int (1 : Int32)), .val (.int v63), .val (.int v62), .val (.int (1 : Int32)), .unset, .unset, .unset] [])) _
        refine XS.iload X504.here hx rfl (hb hby at_295) rfl ?_
        refine XS.iconst X504.here hx rfl (hb hby at_297) ?_
        show Steps p.tables e below (T504.setTop (mkF m 298 #[.val (.long q0), .second, .val (.long q1), .second, .val (.long q2), .second, .val (.long q3), .second, .val (.int p4), .val (.ref b101), .val (.ref b111), .val (.ref b127), .val (.ref b149), .val (.int v5), .val (.int (1 : Int32)), .val (.ref b178), .val (.int (0 : Int32)), .val (.int (1 : Int32)), .val (.int (2 : Int32)), .val (.int (1 : Int32)), .val (.int v62), .val (.int (1 : Int32)), .val (.int v63), .val (.int v62), .val (.int (1 : Int32)), .unset, .unset, .unset] [(.int (2 : Int32)), (.int v5)])) _
        refine st507 _ ?_
        show Steps p.tables e below (T507.setTop (mkF m 306 #[.val (.long q0), .second, .val (.long q1), .second, .val (.long q2), .second, .val (.long q3), .second, .val (.int p4), .val (.ref b101), .val (.ref b111), .val (.ref b127), .val (.ref b149), .val (.int v5), .val (.int (1 : Int32)), .val (.ref b178), .val (.int (0 : Int32)), .val (.int (1 : Int32)), .val (.int (2 : Int32)), .val (.int (1 : Int32)), .val (.int v62), .val (.int (1 : Int32)), .val (.int v63), .val (.int v62), .val (.int (1 : Int32)), .unset, .unset, .unset] [(.int v63)])) _
        refine XS.istore X507.here hx rfl (hb hby at_306) rfl (l' := #[.val (.long q0), .second, .val (.long q1), .second, .val (.long q2), .second, .val (.long q3), .second, .val (.int p4), .val (.ref b101), .val (.ref b111), .val (.ref b127), .val (.ref b149), .val (.int v5), .val (.int (1 : Int32)), .val (.ref b178), .val (.int (0 : Int32)), .val (.int (1 : Int32)), .val (.int (2 : Int32)), .val (.int (1 : Int32)), .val (.int v62), .val (.int (1 : Int32)), .val (.int v63), .val (.int v62), .val (.int (1 : Int32)), .val (.int v63), .unset, .unset]) rfl ?_
        show Steps p.tables e below (T507.setTop (mkF m 308 #[.val (.long q0), .second, .val (.long q1), .second, .val (.long q2), .second, .val (.long q3), .second, .val (.int p4), .val (.ref b101), .val (.ref b111), .val (.ref b127), .val (.ref b149), .val (.int v5), .val (.int (1 : Int32)), .val (.ref b178), .val (.int (0 : Int32)), .val (.int (1 : Int32)), .val (.int (2 : Int32)), .val (.int (1 : Int32)), .val (.int v62), .val (.int (1 : Int32)), .val (.int v63), .val (.int v62), .val (.int (1 : Int32)), .val (.int v63), .unset, .unset] [])) _
        refine XS.aload X507.here hx rfl (hb hby at_308) rfl rfl ?_
        refine XS.aload X507.here hx rfl (hb hby at_310) rfl rfl ?_
        show Steps p.tables e below (T507.setTop (mkF m 312 #[.val (.long q0), .second, .val (.long q1), .second, .val (.long q2), .second, .val (.long q3), .second, .val (.int p4), .val (.ref b101), .val (.ref b111), .val (.ref b127), .val (.ref b149), .val (.int v5), .val (.int (1 : Int32)), .val (.ref b178), .val (.int (0 : Int32)), .val (.int (1 : Int32)), .val (.int (2 : Int32)), .val (.int (1 : Int32)), .val (.int v62), .val (.int (1 : Int32)), .val (.int v63), .val (.int v62), .val (.int (1 : Int32)), .val (.int v63), .unset, .unset] [(.ref b149), (.ref b178)])) _
        refine st508.trans ?_
        show Steps p.tables e below (T508.setTop (mkF m 315 #[.val (.long q0), .second, .val (.long q1), .second, .val (.long q2), .second, .val (.long q3), .second, .val (.int p4), .val (.ref b101), .val (.ref b111), .val (.ref b127), .val (.ref b149), .val (.int v5), .val (.int (1 : Int32)), .val (.ref b178), .val (.int (0 : Int32)), .val (.int (1 : Int32)), .val (.int (2 : Int32)), .val (.int (1 : Int32)), .val (.int v62), .val (.int (1 : Int32)), .val (.int v63), .val (.int v62), .val (.int (1 : Int32)), .val (.int v63), .unset, .unset] [(.int (v61 0))])) _
        rw [← hv71]
        show Steps p.tables e below (T508.setTop (mkF m 315 #[.val (.long q0), .second, .val (.long q1), .second, .val (.long q2), .second, .val (.long q3), .second, .val (.int p4), .val (.ref b101), .val (.ref b111), .val (.ref b127), .val (.ref b149), .val (.int v5), .val (.int (1 : Int32)), .val (.ref b178), .val (.int (0 : Int32)), .val (.int (1 : Int32)), .val (.int (2 : Int32)), .val (.int (1 : Int32)), .val (.int v62), .val (.int (1 : Int32)), .val (.int v63), .val (.int v62), .val (.int (1 : Int32)), .val (.int v63), .unset, .unset] [(.int v71)])) _
        refine XS.istore X508.here hx rfl (hb hby at_315) rfl (l' := #[.val (.long q0), .second, .val (.long q1), .second, .val (.long q2), .second, .val (.long q3), .second, .val (.int p4), .val (.ref b101), .val (.ref b111), .val (.ref b127), .val (.ref b149), .val (.int v5), .val (.int (1 : Int32)), .val (.ref b178), .val (.int (0 : Int32)), .val (.int (1 : Int32)), .val (.int (2 : Int32)), .val (.int (1 : Int32)), .val (.int v62), .val (.int (1 : Int32)), .val (.int v63), .val (.int v62), .val (.int (1 : Int32)), .val (.int v63), .val (.int v71), .unset]) rfl ?_
        show Steps p.tables e below (T508.setTop (mkF m 317 #[.val (.long q0), .second, .val (.long q1), .second, .val (.long q2), .second, .val (.long q3), .second, .val (.int p4), .val (.ref b101), .val (.ref b111), .val (.ref b127), .val (.ref b149), .val (.int v5), .val (.int (1 : Int32)), .val (.ref b178), .val (.int (0 : Int32)), .val (.int (1 : Int32)), .val (.int (2 : Int32)), .val (.int (1 : Int32)), .val (.int v62), .val (.int (1 : Int32)), .val (.int v63), .val (.int v62), .val (.int (1 : Int32)), .val (.int v63), .val (.int v71), .unset] [])) _
        refine XS.iload X508.here hx rfl (hb hby at_317) rfl ?_
        refine XS.ifNo X508.here hx rfl (hb hby at_319) rfl ((if0 _ _).trans (feq (by decide : ¬ ((1 : Int32) = (0 : Int32)))).1) ?_
        show Steps p.tables e below (T508.setTop (mkF m 322 #[.val (.long q0), .second, .val (.long q1), .second, .val (.long q2), .second, .val (.long q3), .second, .val (.int p4), .val (.ref b101), .val (.ref b111), .val (.ref b127), .val (.ref b149), .val (.int v5), .val (.int (1 : Int32)), .val (.ref b178), .val (.int (0 : Int32)), .val (.int (1 : Int32)), .val (.int (2 : Int32)), .val (.int (1 : Int32)), .val (.int v62), .val (.int (1 : Int32)), .val (.int v63), .val (.int v62), .val (.int (1 : Int32)), .val (.int v63), .val (.int v71), .unset] [])) _
        refine XS.iload X508.here hx rfl (hb hby at_322) rfl ?_
        refine XS.goto X508.here hx rfl (pc0 := 324) (pc' := 328) rfl (hb hby at_324) (by decide) (by decide) ?_
        show Steps p.tables e below (T508.setTop (mkF m 328 #[.val (.long q0), .second, .val (.long q1), .second, .val (.long q2), .second, .val (.long q3), .second, .val (.int p4), .val (.ref b101), .val (.ref b111), .val (.ref b127), .val (.ref b149), .val (.int v5), .val (.int (1 : Int32)), .val (.ref b178), .val (.int (0 : Int32)), .val (.int (1 : Int32)), .val (.int (2 : Int32)), .val (.int (1 : Int32)), .val (.int v62), .val (.int (1 : Int32)), .val (.int v63), .val (.int v62), .val (.int (1 : Int32)), .val (.int v63), .val (.int v71), .unset] [(.int v5)])) _
        refine XS.istore X508.here hx rfl (hb hby at_328) rfl (l' := #[.val (.long q0), .second, .val (.long q1), .second, .val (.long q2), .second, .val (.long q3), .second, .val (.int p4), .val (.ref b101), .val (.ref b111), .val (.ref b127), .val (.ref b149), .val (.int v5), .val (.int (1 : Int32)), .val (.ref b178), .val (.int (0 : Int32)), .val (.int (1 : Int32)), .val (.int (2 : Int32)), .val (.int (1 : Int32)), .val (.int v62), .val (.int (1 : Int32)), .val (.int v63), .val (.int v62), .val (.int (1 : Int32)), .val (.int v63), .val (.int v71), .val (.int v5)]) rfl ?_
        show Steps p.tables e below (T508.setTop (mkF m 330 #[.val (.long q0), .second, .val (.long q1), .second, .val (.long q2), .second, .val (.long q3), .second, .val (.int p4), .val (.ref b101), .val (.ref b111), .val (.ref b127), .val (.ref b149), .val (.int v5), .val (.int (1 : Int32)), .val (.ref b178), .val (.int (0 : Int32)), .val (.int (1 : Int32)), .val (.int (2 : Int32)), .val (.int (1 : Int32)), .val (.int v62), .val (.int (1 : Int32)), .val (.int v63), .val (.int v62), .val (.int (1 : Int32)), .val (.int v63), .val (.int v71), .val (.int v5)] [])) _
        refine XS.iload X508.here hx rfl (hb hby at_330) rfl ?_
        refine XS.iload X508.here hx rfl (hb hby at_332) rfl ?_
        refine XS.icmpNo X508.here hx rfl (hb hby at_334) rfl (teq (rfl : v62 = v62)).2 ?_
        show Steps p.tables e below (T508.setTop (mkF m 337 #[.val (.long q0), .second, .val (.long q1), .second, .val (.long q2), .second, .val (.long q3), .second, .val (.int p4), .val (.ref b101), .val (.ref b111), .val (.ref b127), .val (.ref b149), .val (.int v5), .val (.int (1 : Int32)), .val (.ref b178), .val (.int (0 : Int32)), .val (.int (1 : Int32)), .val (.int (2 : Int32)), .val (.int (1 : Int32)), .val (.int v62), .val (.int (1 : Int32)), .val (.int v63), .val (.int v62), .val (.int (1 : Int32)), .val (.int v63), .val (.int v71), .val (.int v5)] [])) _
        refine XS.iload X508.here hx rfl (hb hby at_337) rfl ?_
        refine XS.iload X508.here hx rfl (hb hby at_339) rfl ?_
        refine XS.icmpNo X508.here hx rfl (hb hby at_341) rfl (teq (by decide : (1 : Int32) = (1 : Int32))).2 ?_
        show Steps p.tables e below (T508.setTop (mkF m 344 #[.val (.long q0), .second, .val (.long q1), .second, .val (.long q2), .second, .val (.long q3), .second, .val (.int p4), .val (.ref b101), .val (.ref b111), .val (.ref b127), .val (.ref b149), .val (.int v5), .val (.int (1 : Int32)), .val (.ref b178), .val (.int (0 : Int32)), .val (.int (1 : Int32)), .val (.int (2 : Int32)), .val (.int (1 : Int32)), .val (.int v62), .val (.int (1 : Int32)), .val (.int v63), .val (.int v62), .val (.int (1 : Int32)), .val (.int v63), .val (.int v71), .val (.int v5)] [])) _
        refine XS.iload X508.here hx rfl (hb hby at_344) rfl ?_
        refine XS.iload X508.here hx rfl (hb hby at_346) rfl ?_
        refine XS.icmpNo X508.here hx rfl (hb hby at_348) rfl (teq (rfl : v63 = v63)).2 ?_
        show Steps p.tables e below (T508.setTop (mkF m 351 #[.val (.long q0), .second, .val (.long q1), .second, .val (.long q2), .second, .val (.long q3), .second, .val (.int p4), .val (.ref b101), .val (.ref b111), .val (.ref b127), .val (.ref b149), .val (.int v5), .val (.int (1 : Int32)), .val (.ref b178), .val (.int (0 : Int32)), .val (.int (1 : Int32)), .val (.int (2 : Int32)), .val (.int (1 : Int32)), .val (.int v62), .val (.int (1 : Int32)), .val (.int v63), .val (.int v62), .val (.int (1 : Int32)), .val (.int v63), .val (.int v71), .val (.int v5)] [])) _
        refine XS.iload X508.here hx rfl (hb hby at_351) rfl ?_
        refine XS.iload X508.here hx rfl (hb hby at_353) rfl ?_
        refine XS.icmpNo X508.here hx rfl (hb hby at_355) rfl (teq (by rw [hv71, hv61]; rfl)).2 ?_
        show Steps p.tables e below (T508.setTop (mkF m 358 #[.val (.long q0), .second, .val (.long q1), .second, .val (.long q2), .second, .val (.long q3), .second, .val (.int p4), .val (.ref b101), .val (.ref b111), .val (.ref b127), .val (.ref b149), .val (.int v5), .val (.int (1 : Int32)), .val (.ref b178), .val (.int (0 : Int32)), .val (.int (1 : Int32)), .val (.int (2 : Int32)), .val (.int (1 : Int32)), .val (.int v62), .val (.int (1 : Int32)), .val (.int v63), .val (.int v62), .val (.int (1 : Int32)), .val (.int v63), .val (.int v71), .val (.int v5)] [])) _
        refine XS.iconst X508.here hx rfl (hb hby at_358) ?_
        refine XS.goto X508.here hx rfl (pc0 := 359) (pc' := 363) rfl (hb hby at_359) (by decide) (by decide) ?_
        exact kt
      refine own_go hgo525 ?_
      exact own_retZ X508 hx Bd.returns Bd.notSynchronized (hb hby at_363) (by decide) (by decide) (Or.inr (rfl : (1 : Int32) = 1)) ⟨by rw [(rfl : (1 : Int32) = 1)], N508⟩
  by_cases hs172_72 : v6 = (2 : Int32)
  · obtain ⟨cq526, kq526, q526a, q526b, q526c⟩ := isOf hZ (rfl : T252.heap = T252.heap) F252_0
    obtain ⟨_, _, ⟨T526, L526, k526, n526⟩, -, X526, ⟨Lc526, hQ526, l526, y526, z526⟩, st526⟩ := X252.virtualBack hx (y := (⟨"com/example/upper_falls/upperfalls/HeldKeys", "hold", "(Lcom/example/upper_falls/upperfalls/KeyHash;)I"⟩ : MethodName)) (z := (⟨"com/example/upper_falls/upperfalls/HeldKeys", "hold", "(Lcom/example/upper_falls/upperfalls/KeyHash;)I"⟩ : MethodName)) hown (mvT hZ (own_wd hw 71 rfl)) (mvT hZ (own_wd hw 72 rfl)) (notFace_of_selects (args := #[]) (mvT hZ (own_wd hw 74 rfl))) (mvT hZ (own_wd hw 74 rfl)) (mvT hZ (own_wd hw 73 rfl)) (by decide) (backOf (W := 0) (rmhy l Z a0 hw [] b178 b127 b202_0 b202_1 b202_2 b202_3 b202_4 b202_5 v23 v24 v25 v27 v11 v26 v3 (2 : Int64) (3 : Int32) (2 : Int32) 3 (0 : Int32) (2 : Int32) (T252.heap) n0 Z267 F252_0 F252_1 F252_2 F252_3 F252_4 F252_5 F252_6 F252_7 F252_8f F252_9 F252_10n F252_11n F252_12n F252_14n F266 F252_13n F259 F260 F261 ((by rw [hF3]; exact own_V3) : own_V 3 v26) ((own_Mk (t := 2) (by decide) (by decide) rfl rfl G3 (fun _ => P2)) : own_M 3 v23 v24 (2 : Int32) v3 (2 : Int64)) (by decide : 3 ≤ 3) ((by rw [hF3]; exact cg2) : own_fnd v26 (2 : Int32) 8 ((v3.toInt32) &&& (31 : Int32)) = some (2 : Int32)) (by decide : (¬ (2 : Int32) < 0 ∧ (2 : Int32).toNatClampNeg < 16)) (by decide : ¬ ((2 : Int32) = (-1 : Int32))) ne_b178_b202_3 F202_8 F202_12 F202_15 (Ne.symm F202_18) (Ne.symm F202_19) ne_b127_b202_3 g_b202_3) hZ (own_wd hw 75 rfl) (own_wd hw 27 rfl) (by decide) (by decide)) q526a q526c (g := (mkF m 203 #[.val (.long q0), .second, .val (.long q1), .second, .val (.long q2), .second, .val (.long q3), .second, .val (.int p4), .val (.ref b101), .val (.ref b111), .val (.ref b127), .val (.ref b149), .val (.int v5), .val (.int (2 : Int32)), .val (.ref b178), .val (.int (0 : Int32)), .val (.int (1 : Int32)), .val (.int (2 : Int32)), .unset, .unset, .unset, .unset, .unset, .unset, .unset, .unset, .unset] [(.ref b127), (.ref b178)])) rfl (by rw [hml]; rfl) (Steps.refl _) (argsL := [(.ref b127)]) (rest := []) (lenOf pd13 rfl) rfl (by show 2 * 0 + _ ≤ _; exact Nat.le_of_eq rfl) (hb hby at_203) (fun _ _ => ⟨rfl, (rfl : T252.heap = T252.heap), (by decide : 11 + 0 ≤ _), (by decide : 129 + 0 ≤ _)⟩)
    dsimp only [Pt.U, Pt.locs, Pt.cells, Pt.slots] at X526 l526 y526 z526 st526 hQ526
    subst l526 y526 z526
    obtain ⟨rfl, N526q, K526q, F526_0⟩ := hQ526
    have F527 := F253.keep K526q
    have F528 := F254.keep K526q (ninS ne_b101_b202_3 nin0)
    have F529 := F255.keep K526q (ninS ne_b101_b202_3 nin0)
    have F530 := F256.keep K526q
    have F531 := F257.keep K526q (ninS ne_b111_b202_3 nin0)
    have F532 := F258.keep K526q (ninS ne_b111_b202_3 nin0)
    have F533 := F259.keep K526q
    have F534 := F260.keep K526q (ninS ne_b127_b202_3 nin0)
    have F535 := F261.keep K526q (ninS ne_b127_b202_3 nin0)
    have F536 := F262.keep K526q
    have F537 := F263.keep K526q (ninS ne_b149_b202_3 nin0)
    have F538 := F264.keep K526q (ninS ne_b149_b202_3 nin0)
    have F539 := F252_0.keep K526q
    have F540 := F266.keep K526q (ninS (Ne.symm F202_18) nin0)
    have F541 := F252_1.keep K526q (ninS ne_b178_b202_3 nin0)
    have F542 := F252_2.keep K526q (ninS ne_b178_b202_3 nin0)
    have F543 := F252_3.keep K526q (ninS ne_b178_b202_3 nin0)
    have F544 := F252_4.keep K526q (ninS ne_b178_b202_3 nin0)
    have F545 := F252_5.keep K526q (ninS ne_b178_b202_3 nin0)
    have F546 := F252_6.keep K526q (ninS ne_b178_b202_3 nin0)
    have F547 := F252_7.keep K526q (ninS ne_b178_b202_3 nin0)
    have F548 := F252_8f.keep K526q (ninS ne_b178_b202_3 nin0)
    have F549 := F252_9.keep K526q (ninS ne_b178_b202_3 nin0)
    have F550 := F252_10n.keep K526q (ninS F202_8 nin0)
    have F551 := F252_11n.keep K526q (ninS F202_12 nin0)
    have F552 := F252_12n.keep K526q (ninS F202_15 nin0)
    have F553 := F252_13n.keep K526q (ninS (Ne.symm F202_19) nin0)
    have Z554 : n0 ≤ T526.heap.size := Nat.le_trans Z267 K526q.1
    have K555 : Keep h0 T526.heap [] := K268.trans K526q (allS (Or.inr sz_b202_3) all0)
    obtain ⟨v73, hv73⟩ : ∃ z : Nat → Int32, z = (own_up v27 ((2 : Int32).toNatClampNeg) ((v27 (2 : Int32).toNatClampNeg) + (1 : Int32))) := ⟨_, rfl⟩
    have F526_0n : own_AI Z T526.heap b202_3 .int 16 v73 := by rw [hv73]; exact F526_0
    have N526 := Fr.app N252 N526q
    have hgo556 : ∀ t, Steps p.tables e below (T526.setTop (mkF m 207 #[.val (.long q0), .second, .val (.long q1), .second, .val (.long q2), .second, .val (.long q3), .second, .val (.int p4), .val (.ref b101), .val (.ref b111), .val (.ref b127), .val (.ref b149), .val (.int v5), .val (.int (2 : Int32)), .val (.ref b178), .val (.int (0 : Int32)), .val (.int (1 : Int32)), .val (.int (2 : Int32)), .unset, .unset, .unset, .unset, .unset, .unset, .unset, .unset, .unset] [])) t → Steps p.tables e below (T252.setTop (mkF m 172 #[.val (.long q0), .second, .val (.long q1), .second, .val (.long q2), .second, .val (.long q3), .second, .val (.int p4), .val (.ref b101), .val (.ref b111), .val (.ref b127), .val (.ref b149), .val (.int v5), .val (.int v6), .val (.ref b178), .val (.int (0 : Int32)), .val (.int (1 : Int32)), .val (.int (2 : Int32)), .unset, .unset, .unset, .unset, .unset, .unset, .unset, .unset, .unset] [])) t := by
      intro t kt
      show Steps p.tables e below (T252.setTop (mkF m 172 #[.val (.long q0), .second, .val (.long q1), .second, .val (.long q2), .second, .val (.long q3), .second, .val (.int p4), .val (.ref b101), .val (.ref b111), .val (.ref b127), .val (.ref b149), .val (.int v5), .val (.int v6), .val (.ref b178), .val (.int (0 : Int32)), .val (.int (1 : Int32)), .val (.int (2 : Int32)), .unset, .unset, .unset, .unset, .unset, .unset, .unset, .unset, .unset] [])) _
      rw [hs172_72]
      show Steps p.tables e below (T252.setTop (mkF m 172 #[.val (.long q0), .second, .val (.long q1), .second, .val (.long q2), .second, .val (.long q3), .second, .val (.int p4), .val (.ref b101), .val (.ref b111), .val (.ref b127), .val (.ref b149), .val (.int v5), .val (.int (2 : Int32)), .val (.ref b178), .val (.int (0 : Int32)), .val (.int (1 : Int32)), .val (.int (2 : Int32)), .unset, .unset, .unset, .unset, .unset, .unset, .unset, .unset, .unset] [])) _
      refine XS.iload X252.here hx rfl (hb hby at_172) rfl ?_
      refine XS.iconst X252.here hx rfl (hb hby at_174) ?_
      refine XS.icmpNo X252.here hx rfl (hb hby at_175) rfl (tlt (by decide : (2 : Int32) < (3 : Int32))).2.1 ?_
      show Steps p.tables e below (T252.setTop (mkF m 178 #[.val (.long q0), .second, .val (.long q1), .second, .val (.long q2), .second, .val (.long q3), .second, .val (.int p4), .val (.ref b101), .val (.ref b111), .val (.ref b127), .val (.ref b149), .val (.int v5), .val (.int (2 : Int32)), .val (.ref b178), .val (.int (0 : Int32)), .val (.int (1 : Int32)), .val (.int (2 : Int32)), .unset, .unset, .unset, .unset, .unset, .unset, .unset, .unset, .unset] [])) _
      refine XS.aload X252.here hx rfl (hb hby at_178) rfl rfl ?_
      refine XS.iload X252.here hx rfl (hb hby at_180) rfl ?_
      refine XS.ifYes X252.here hx rfl (pc0 := 182) (pc' := 190) rfl (hb hby at_182) rfl ((if0 _ _).trans (feq (by decide : ¬ ((2 : Int32) = (0 : Int32)))).2) (by decide) (by decide) ?_
      show Steps p.tables e below (T252.setTop (mkF m 190 #[.val (.long q0), .second, .val (.long q1), .second, .val (.long q2), .second, .val (.long q3), .second, .val (.int p4), .val (.ref b101), .val (.ref b111), .val (.ref b127), .val (.ref b149), .val (.int v5), .val (.int (2 : Int32)), .val (.ref b178), .val (.int (0 : Int32)), .val (.int (1 : Int32)), .val (.int (2 : Int32)), .unset, .unset, .unset, .unset, .unset, .unset, .unset, .unset, .unset] [(.ref b178)])) _
      refine XS.iload X252.here hx rfl (hb hby at_190) rfl ?_
      refine XS.iconst X252.here hx rfl (hb hby at_192) ?_
      refine XS.icmpYes X252.here hx rfl (pc0 := 193) (pc' := 201) rfl (hb hby at_193) rfl (feq (by decide : ¬ ((2 : Int32) = (1 : Int32)))).2 (by decide) (by decide) ?_
      show Steps p.tables e below (T252.setTop (mkF m 201 #[.val (.long q0), .second, .val (.long q1), .second, .val (.long q2), .second, .val (.long q3), .second, .val (.int p4), .val (.ref b101), .val (.ref b111), .val (.ref b127), .val (.ref b149), .val (.int v5), .val (.int (2 : Int32)), .val (.ref b178), .val (.int (0 : Int32)), .val (.int (1 : Int32)), .val (.int (2 : Int32)), .unset, .unset, .unset, .unset, .unset, .unset, .unset, .unset, .unset] [(.ref b178)])) _
      refine XS.aload X252.here hx rfl (hb hby at_201) rfl rfl ?_
      show Steps p.tables e below (T252.setTop (mkF m 203 #[.val (.long q0), .second, .val (.long q1), .second, .val (.long q2), .second, .val (.long q3), .second, .val (.int p4), .val (.ref b101), .val (.ref b111), .val (.ref b127), .val (.ref b149), .val (.int v5), .val (.int (2 : Int32)), .val (.ref b178), .val (.int (0 : Int32)), .val (.int (1 : Int32)), .val (.int (2 : Int32)), .unset, .unset, .unset, .unset, .unset, .unset, .unset, .unset, .unset] [(.ref b127), (.ref b178)])) _
      refine st526.trans ?_
      show Steps p.tables e below (T526.setTop (mkF m 206 #[.val (.long q0), .second, .val (.long q1), .second, .val (.long q2), .second, .val (.long q3), .second, .val (.int p4), .val (.ref b101), .val (.ref b111), .val (.ref b127), .val (.ref b149), .val (.int v5), .val (.int (2 : Int32)), .val (.ref b178), .val (.int (0 : Int32)), .val (.int (1 : Int32)), .val (.int (2 : Int32)), .unset, .unset, .unset, .unset, .unset, .unset, .unset, .unset, .unset] [(.int (2 : Int32))])) _
      refine XS.pop X526.here hx rfl (hb hby at_206) rfl rfl ?_
      exact kt
    refine own_go hgo556 ?_
    by_cases hs207_74 : v5 = (2 : Int32)
    · obtain ⟨cq557, kq557, q557a, q557b, q557c⟩ := isOf hZ (rfl : T526.heap = T526.heap) F539
      obtain ⟨_, _, ⟨T557, L557, k557, n557⟩, -, X557, ⟨Lc557, hQ557, l557, y557, z557⟩, st557⟩ := X526.virtualBack hx (y := (⟨"com/example/upper_falls/upperfalls/HeldKeys", "release", "(I)V"⟩ : MethodName)) (z := (⟨"com/example/upper_falls/upperfalls/HeldKeys", "release", "(I)V"⟩ : MethodName)) hown (mvT hZ (own_wd hw 103 rfl)) (mvT hZ (own_wd hw 104 rfl)) (notFace_of_selects (args := #[]) (mvT hZ (own_wd hw 106 rfl))) (mvT hZ (own_wd hw 106 rfl)) (mvT hZ (own_wd hw 105 rfl)) (by decide) (backOf (W := 0) (rmrk l Z a0 hw [] b178 (2 : Int32) b202_0 b202_1 b202_2 b202_3 b202_4 b202_5 v23 v24 v25 v73 v11 v26 (3 : Int32) (0 : Int32) (T526.heap) n0 Z554 F539 F541 F542 F543 F544 F545 F546 F547 F548 F549 F550 F551 F552 F526_0n F540 F553 (by decide : (¬ (2 : Int32) < 0 ∧ (2 : Int32).toNatClampNeg < 16)) ((by rw [hv73, hv27, hv22, hv17, hv10]; decide) : ¬ (((v73 (2 : Int32).toNatClampNeg) - (1 : Int32)) = (0 : Int32))) ne_b178_b202_3 F202_8 F202_12 F202_15 (Ne.symm F202_18) (Ne.symm F202_19) g_b202_3) hZ (own_wd hw 107 rfl) (own_wd hw 27 rfl) (by decide) (by decide)) q557a q557c (g := (mkF m 211 #[.val (.long q0), .second, .val (.long q1), .second, .val (.long q2), .second, .val (.long q3), .second, .val (.int p4), .val (.ref b101), .val (.ref b111), .val (.ref b127), .val (.ref b149), .val (.int (2 : Int32)), .val (.int (2 : Int32)), .val (.ref b178), .val (.int (0 : Int32)), .val (.int (1 : Int32)), .val (.int (2 : Int32)), .unset, .unset, .unset, .unset, .unset, .unset, .unset, .unset, .unset] [(.int (2 : Int32)), (.ref b178)])) rfl (by rw [hml]; rfl) (Steps.refl _) (argsL := [(.int (2 : Int32))]) (rest := []) (lenOf pd14 rfl) rfl (by show 2 * 0 + _ ≤ _; exact Nat.le_of_eq rfl) (hb hby at_211) (fun _ _ => ⟨rfl, (rfl : T526.heap = T526.heap), (by decide : 11 + 0 ≤ _), (by decide : 129 + 0 ≤ _)⟩)
      dsimp only [Pt.U, Pt.locs, Pt.cells, Pt.slots] at X557 l557 y557 z557 st557 hQ557
      subst l557 y557 z557
      obtain ⟨rfl, N557q, K557q, F557_0⟩ := hQ557
      have F558 := F527.keep K557q
      have F559 := F528.keep K557q (ninS ne_b101_b202_3 nin0)
      have F560 := F529.keep K557q (ninS ne_b101_b202_3 nin0)
      have F561 := F530.keep K557q
      have F562 := F531.keep K557q (ninS ne_b111_b202_3 nin0)
      have F563 := F532.keep K557q (ninS ne_b111_b202_3 nin0)
      have F564 := F533.keep K557q
      have F565 := F534.keep K557q (ninS ne_b127_b202_3 nin0)
      have F566 := F535.keep K557q (ninS ne_b127_b202_3 nin0)
      have F567 := F536.keep K557q
      have F568 := F537.keep K557q (ninS ne_b149_b202_3 nin0)
      have F569 := F538.keep K557q (ninS ne_b149_b202_3 nin0)
      have F570 := F539.keep K557q
      have F571 := F540.keep K557q (ninS (Ne.symm F202_18) nin0)
      have F572 := F541.keep K557q (ninS ne_b178_b202_3 nin0)
      have F573 := F542.keep K557q (ninS ne_b178_b202_3 nin0)
      have F574 := F543.keep K557q (ninS ne_b178_b202_3 nin0)
      have F575 := F544.keep K557q (ninS ne_b178_b202_3 nin0)
      have F576 := F545.keep K557q (ninS ne_b178_b202_3 nin0)
      have F577 := F546.keep K557q (ninS ne_b178_b202_3 nin0)
      have F578 := F547.keep K557q (ninS ne_b178_b202_3 nin0)
      have F579 := F548.keep K557q (ninS ne_b178_b202_3 nin0)
      have F580 := F549.keep K557q (ninS ne_b178_b202_3 nin0)
      have F581 := F550.keep K557q (ninS F202_8 nin0)
      have F582 := F551.keep K557q (ninS F202_12 nin0)
      have F583 := F552.keep K557q (ninS F202_15 nin0)
      have F584 := F553.keep K557q (ninS (Ne.symm F202_19) nin0)
      have Z585 : n0 ≤ T557.heap.size := Nat.le_trans Z554 K557q.1
      have K586 : Keep h0 T557.heap [] := K555.trans K557q (allS (Or.inr sz_b202_3) all0)
      obtain ⟨v75, hv75⟩ : ∃ z : Nat → Int32, z = (own_up v73 ((2 : Int32).toNatClampNeg) ((v73 (2 : Int32).toNatClampNeg) - (1 : Int32))) := ⟨_, rfl⟩
      have F557_0n : own_AI Z T557.heap b202_3 .int 16 v75 := by rw [hv75]; exact F557_0
      have N557 := Fr.app N526 N557q
      obtain ⟨cq587, kq587, q587a, q587b, q587c⟩ := isOf hZ (rfl : T557.heap = T557.heap) F570
      obtain ⟨_, _, ⟨T587, L587, k587, n587⟩, -, X587, ⟨Lc587, hQ587, l587, y587, z587⟩, st587⟩ := X557.virtualBack hx (y := (⟨"com/example/upper_falls/upperfalls/HeldKeys", "find", "(Lcom/example/upper_falls/upperfalls/KeyHash;)I"⟩ : MethodName)) (z := (⟨"com/example/upper_falls/upperfalls/HeldKeys", "find", "(Lcom/example/upper_falls/upperfalls/KeyHash;)I"⟩ : MethodName)) hown (mvT hZ (own_wd hw 108 rfl)) (mvT hZ (own_wd hw 77 rfl)) (notFace_of_selects (args := #[]) (mvT hZ (own_wd hw 79 rfl))) (mvT hZ (own_wd hw 79 rfl)) (mvT hZ (own_wd hw 78 rfl)) (by decide) (backOf (W := 0) (rmfd l Z a0 hw [] b178 b101 b202_5 b202_0 b202_1 v26 v23 v24 v1 (0 : Int64) (0 : Int32) 3 (0 : Int32) (T557.heap) n0 Z585 F570 F577 F572 F573 F584 F581 F582 F558 F559 F560 ((by rw [hF3]; exact own_V3) : own_V 3 v26) ((own_Mk (t := 0) (by decide) (by decide) rfl rfl G3 (fun _ => P0)) : own_M 3 v23 v24 (0 : Int32) v1 (0 : Int64)) (by decide : 3 ≤ 3) ((by rw [hF3]; exact cg0) : own_fnd v26 (0 : Int32) 8 ((v1.toInt32) &&& (31 : Int32)) = some (0 : Int32))) hZ (own_wd hw 80 rfl) (own_wd hw 27 rfl) (by decide) (by decide)) q587a q587c (g := (mkF m 232 #[.val (.long q0), .second, .val (.long q1), .second, .val (.long q2), .second, .val (.long q3), .second, .val (.int p4), .val (.ref b101), .val (.ref b111), .val (.ref b127), .val (.ref b149), .val (.int (2 : Int32)), .val (.int (2 : Int32)), .val (.ref b178), .val (.int (0 : Int32)), .val (.int (1 : Int32)), .val (.int (2 : Int32)), .val (.int (0 : Int32)), .unset, .unset, .unset, .unset, .unset, .unset, .unset, .unset] [(.ref b101), (.ref b178)])) rfl (by rw [hml]; rfl) (Steps.refl _) (argsL := [(.ref b101)]) (rest := []) (lenOf pd13 rfl) rfl (by show 2 * 0 + _ ≤ _; exact Nat.le_of_eq rfl) (hb hby at_232) (fun _ _ => ⟨rfl, (rfl : T557.heap = T557.heap), (by decide : 11 + 0 ≤ _), (by decide : 129 + 0 ≤ _)⟩)
      dsimp only [Pt.U, Pt.locs, Pt.cells, Pt.slots] at X587 l587 y587 z587 st587 hQ587
      subst l587 y587 z587
      obtain ⟨rfl, N587q, e587⟩ := hQ587
      have N587 := Fr.app N557 N587q
      obtain ⟨cq588, kq588, q588a, q588b, q588c⟩ := isOf hZ e587 F570
      obtain ⟨_, _, ⟨T588, L588, k588, n588⟩, -, X588, ⟨Lc588, hQ588, l588, y588, z588⟩, st588⟩ := X587.virtualBack hx (y := (⟨"com/example/upper_falls/upperfalls/HeldKeys", "find", "(Lcom/example/upper_falls/upperfalls/KeyHash;)I"⟩ : MethodName)) (z := (⟨"com/example/upper_falls/upperfalls/HeldKeys", "find", "(Lcom/example/upper_falls/upperfalls/KeyHash;)I"⟩ : MethodName)) hown (mvT hZ (own_wd hw 108 rfl)) (mvT hZ (own_wd hw 77 rfl)) (notFace_of_selects (args := #[]) (mvT hZ (own_wd hw 79 rfl))) (mvT hZ (own_wd hw 79 rfl)) (mvT hZ (own_wd hw 78 rfl)) (by decide) (backOf (W := 0) (rmfd l Z a0 hw [] b178 b111 b202_5 b202_0 b202_1 v26 v23 v24 v2 (1 : Int64) (1 : Int32) 3 (1 : Int32) (T557.heap) n0 Z585 F570 F577 F572 F573 F584 F581 F582 F561 F562 F563 ((by rw [hF3]; exact own_V3) : own_V 3 v26) ((own_Mk (t := 1) (by decide) (by decide) rfl rfl G3 (fun _ => P1)) : own_M 3 v23 v24 (1 : Int32) v2 (1 : Int64)) (by decide : 3 ≤ 3) ((by rw [hF3]; exact cg1) : own_fnd v26 (1 : Int32) 8 ((v2.toInt32) &&& (31 : Int32)) = some (1 : Int32))) hZ (own_wd hw 80 rfl) (own_wd hw 27 rfl) (by decide) (by decide)) q588a q588c (g := (mkF m 241 #[.val (.long q0), .second, .val (.long q1), .second, .val (.long q2), .second, .val (.long q3), .second, .val (.int p4), .val (.ref b101), .val (.ref b111), .val (.ref b127), .val (.ref b149), .val (.int (2 : Int32)), .val (.int (2 : Int32)), .val (.ref b178), .val (.int (0 : Int32)), .val (.int (1 : Int32)), .val (.int (2 : Int32)), .val (.int (0 : Int32)), .val (.int (0 : Int32)), .unset, .unset, .unset, .unset, .unset, .unset, .unset] [(.ref b111), (.ref b178)])) rfl (by rw [hml]; rfl) (Steps.refl _) (argsL := [(.ref b111)]) (rest := []) (lenOf pd13 rfl) rfl (by show 2 * 0 + _ ≤ _; exact Nat.le_of_eq rfl) (hb hby at_241) (fun _ _ => ⟨rfl, e587, (by decide : 11 + 0 ≤ _), (by decide : 129 + 0 ≤ _)⟩)
      dsimp only [Pt.U, Pt.locs, Pt.cells, Pt.slots] at X588 l588 y588 z588 st588 hQ588
      subst l588 y588 z588
      obtain ⟨rfl, N588q, e588⟩ := hQ588
      have N588 := Fr.app N587 N588q
      obtain ⟨cq589, kq589, q589a, q589b, q589c⟩ := isOf hZ e588 F570
      obtain ⟨_, _, ⟨T589, L589, k589, n589⟩, -, X589, ⟨Lc589, hQ589, l589, y589, z589⟩, st589⟩ := X588.virtualBack hx (y := (⟨"com/example/upper_falls/upperfalls/HeldKeys", "find", "(Lcom/example/upper_falls/upperfalls/KeyHash;)I"⟩ : MethodName)) (z := (⟨"com/example/upper_falls/upperfalls/HeldKeys", "find", "(Lcom/example/upper_falls/upperfalls/KeyHash;)I"⟩ : MethodName)) hown (mvT hZ (own_wd hw 108 rfl)) (mvT hZ (own_wd hw 77 rfl)) (notFace_of_selects (args := #[]) (mvT hZ (own_wd hw 79 rfl))) (mvT hZ (own_wd hw 79 rfl)) (mvT hZ (own_wd hw 78 rfl)) (by decide) (backOf (W := 0) (rmfd l Z a0 hw [] b178 b127 b202_5 b202_0 b202_1 v26 v23 v24 v3 (2 : Int64) (2 : Int32) 3 (2 : Int32) (T557.heap) n0 Z585 F570 F577 F572 F573 F584 F581 F582 F564 F565 F566 ((by rw [hF3]; exact own_V3) : own_V 3 v26) ((own_Mk (t := 2) (by decide) (by decide) rfl rfl G3 (fun _ => P2)) : own_M 3 v23 v24 (2 : Int32) v3 (2 : Int64)) (by decide : 3 ≤ 3) ((by rw [hF3]; exact cg2) : own_fnd v26 (2 : Int32) 8 ((v3.toInt32) &&& (31 : Int32)) = some (2 : Int32))) hZ (own_wd hw 80 rfl) (own_wd hw 27 rfl) (by decide) (by decide)) q589a q589c (g := (mkF m 250 #[.val (.long q0), .second, .val (.long q1), .second, .val (.long q2), .second, .val (.long q3), .second, .val (.int p4), .val (.ref b101), .val (.ref b111), .val (.ref b127), .val (.ref b149), .val (.int (2 : Int32)), .val (.int (2 : Int32)), .val (.ref b178), .val (.int (0 : Int32)), .val (.int (1 : Int32)), .val (.int (2 : Int32)), .val (.int (0 : Int32)), .val (.int (0 : Int32)), .val (.int (1 : Int32)), .unset, .unset, .unset, .unset, .unset, .unset] [(.ref b127), (.ref b178)])) rfl (by rw [hml]; rfl) (Steps.refl _) (argsL := [(.ref b127)]) (rest := []) (lenOf pd13 rfl) rfl (by show 2 * 0 + _ ≤ _; exact Nat.le_of_eq rfl) (hb hby at_250) (fun _ _ => ⟨rfl, e588, (by decide : 11 + 0 ≤ _), (by decide : 129 + 0 ≤ _)⟩)
      dsimp only [Pt.U, Pt.locs, Pt.cells, Pt.slots] at X589 l589 y589 z589 st589 hQ589
      subst l589 y589 z589
      obtain ⟨rfl, N589q, e589⟩ := hQ589
      have N589 := Fr.app N588 N589q
      obtain ⟨cq590, kq590, q590a, q590b, q590c⟩ := isOf hZ e589 F570
      obtain ⟨_, _, ⟨T590, L590, k590, n590⟩, -, X590, ⟨Lc590, hQ590, l590, y590, z590⟩, st590⟩ := X589.virtualBack hx (y := (⟨"com/example/upper_falls/upperfalls/HeldKeys", "hold", "(Lcom/example/upper_falls/upperfalls/KeyHash;)I"⟩ : MethodName)) (z := (⟨"com/example/upper_falls/upperfalls/HeldKeys", "hold", "(Lcom/example/upper_falls/upperfalls/KeyHash;)I"⟩ : MethodName)) hown (mvT hZ (own_wd hw 71 rfl)) (mvT hZ (own_wd hw 72 rfl)) (notFace_of_selects (args := #[]) (mvT hZ (own_wd hw 74 rfl))) (mvT hZ (own_wd hw 74 rfl)) (mvT hZ (own_wd hw 73 rfl)) (by decide) (backOf (W := 0) (rmhn l Z a0 hw [] b178 b149 b202_0 b202_1 b202_2 b202_3 b202_4 b202_5 v23 v24 v25 v75 v11 v26 v4 (3 : Int64) (3 : Int32) (3 : Int32) 3 (own_E (own_F3 ((v1.toInt32) &&& (31 : Int32)) ((v2.toInt32) &&& (31 : Int32)) ((v3.toInt32) &&& (31 : Int32))) ((v4.toInt32) &&& (31 : Int32))) (T557.heap) n0 Z585 F570 F572 F573 F574 F575 F576 F577 F578 F579 F580 F581 F582 F583 F557_0n F571 F584 F567 F568 F569 ((by rw [hF3]; exact own_V3) : own_V 3 v26) ((own_Mk (t := 3) (by decide) (by decide) rfl rfl G3 (fun q => absurd q (by decide))) : own_M 3 v23 v24 (3 : Int32) v4 (3 : Int64)) (by decide : 3 ≤ 3) ((by rw [hF3]; exact cf3) : own_fnd v26 (3 : Int32) 8 ((v4.toInt32) &&& (31 : Int32)) = some (-1 : Int32)) (by decide : (¬ (3 : Int32) < 0 ∧ (3 : Int32).toNatClampNeg < 16)) ((by rw [hF3]; exact ce3) : own_emp v26 8 ((v4.toInt32) &&& (31 : Int32)) = some (own_E (own_F3 ((v1.toInt32) &&& (31 : Int32)) ((v2.toInt32) &&& (31 : Int32)) ((v3.toInt32) &&& (31 : Int32))) ((v4.toInt32) &&& (31 : Int32)))) (Ne.symm ne_b178_b202_0) (Ne.symm ne_b178_b202_1) (Ne.symm ne_b178_b202_2) (Ne.symm ne_b178_b202_3) (Ne.symm ne_b178_b202_4) (Ne.symm ne_b178_b202_5) ne_b149_b178 g_b178 ne_b178_b202_0 (Ne.symm F202_6) (Ne.symm F202_7) (Ne.symm F202_8) (Ne.symm F202_9) (Ne.symm F202_10) ne_b149_b202_0 g_b202_0 ne_b178_b202_1 (Ne.symm F202_11) (Ne.symm F202_12) (Ne.symm F202_13) (Ne.symm F202_14) ne_b149_b202_1 F202_6 g_b202_1 ne_b178_b202_2 (Ne.symm F202_15) (Ne.symm F202_16) (Ne.symm F202_17) ne_b149_b202_2 F202_7 F202_11 g_b202_2 ne_b178_b202_5 F202_19 F202_20 ne_b149_b202_5 F202_10 F202_14 F202_17 g_b202_5 ne_b178_b202_3 (Ne.symm F202_18) ne_b149_b202_3 F202_8 F202_12 F202_15 (Ne.symm F202_19) g_b202_3) hZ (own_wd hw 75 rfl) (own_wd hw 27 rfl) (by decide) (by decide)) q590a q590c (g := (mkF m 312 #[.val (.long q0), .second, .val (.long q1), .second, .val (.long q2), .second, .val (.long q3), .second, .val (.int p4), .val (.ref b101), .val (.ref b111), .val (.ref b127), .val (.ref b149), .val (.int (2 : Int32)), .val (.int (2 : Int32)), .val (.ref b178), .val (.int (0 : Int32)), .val (.int (1 : Int32)), .val (.int (2 : Int32)), .val (.int (0 : Int32)), .val (.int (0 : Int32)), .val (.int (1 : Int32)), .val (.int (2 : Int32)), .val (.int (0 : Int32)), .val (.int (1 : Int32)), .val (.int (2 : Int32)), .unset, .unset] [(.ref b149), (.ref b178)])) rfl (by rw [hml]; rfl) (Steps.refl _) (argsL := [(.ref b149)]) (rest := []) (lenOf pd13 rfl) rfl (by show 2 * 0 + _ ≤ _; exact Nat.le_of_eq rfl) (hb hby at_312) (fun _ _ => ⟨rfl, e589, (by decide : 11 + 0 ≤ _), (by decide : 129 + 0 ≤ _)⟩)
      dsimp only [Pt.U, Pt.locs, Pt.cells, Pt.slots] at X590 l590 y590 z590 st590 hQ590
      subst l590 y590 z590
      obtain ⟨rfl, N590q, K590q, F590_0, F590_1, F590_2, F590_3, F590_4, F590_5, F590_6, F590_7, F590_8, F590_9, F590_10, F590_11, F590_12, F590_13, F590_14⟩ := hQ590
      have F591 := F558.keep K590q
      have F592 := F559.keep K590q (ninS ne_b101_b178 (ninS ne_b101_b202_0 (ninS ne_b101_b202_1 (ninS ne_b101_b202_2 (ninS ne_b101_b202_5 (ninS ne_b101_b202_3 nin0))))))
      have F593 := F560.keep K590q (ninS ne_b101_b178 (ninS ne_b101_b202_0 (ninS ne_b101_b202_1 (ninS ne_b101_b202_2 (ninS ne_b101_b202_5 (ninS ne_b101_b202_3 nin0))))))
      have F594 := F561.keep K590q
      have F595 := F562.keep K590q (ninS ne_b111_b178 (ninS ne_b111_b202_0 (ninS ne_b111_b202_1 (ninS ne_b111_b202_2 (ninS ne_b111_b202_5 (ninS ne_b111_b202_3 nin0))))))
      have F596 := F563.keep K590q (ninS ne_b111_b178 (ninS ne_b111_b202_0 (ninS ne_b111_b202_1 (ninS ne_b111_b202_2 (ninS ne_b111_b202_5 (ninS ne_b111_b202_3 nin0))))))
      have F597 := F564.keep K590q
      have F598 := F565.keep K590q (ninS ne_b127_b178 (ninS ne_b127_b202_0 (ninS ne_b127_b202_1 (ninS ne_b127_b202_2 (ninS ne_b127_b202_5 (ninS ne_b127_b202_3 nin0))))))
      have F599 := F566.keep K590q (ninS ne_b127_b178 (ninS ne_b127_b202_0 (ninS ne_b127_b202_1 (ninS ne_b127_b202_2 (ninS ne_b127_b202_5 (ninS ne_b127_b202_3 nin0))))))
      have F600 := F567.keep K590q
      have F601 := F568.keep K590q (ninS ne_b149_b178 (ninS ne_b149_b202_0 (ninS ne_b149_b202_1 (ninS ne_b149_b202_2 (ninS ne_b149_b202_5 (ninS ne_b149_b202_3 nin0))))))
      have F602 := F569.keep K590q (ninS ne_b149_b178 (ninS ne_b149_b202_0 (ninS ne_b149_b202_1 (ninS ne_b149_b202_2 (ninS ne_b149_b202_5 (ninS ne_b149_b202_3 nin0))))))
      have F603 := F570.keep K590q
      have F604 := F571.keep K590q (ninS (Ne.symm ne_b178_b202_4) (ninS (Ne.symm F202_9) (ninS (Ne.symm F202_13) (ninS (Ne.symm F202_16) (ninS F202_20 (ninS (Ne.symm F202_18) nin0))))))
      have Z605 : n0 ≤ T590.heap.size := Nat.le_trans Z585 K590q.1
      have K606 : Keep h0 T590.heap [] := K586.trans K590q (allS (Or.inr sz_b178) (allS (Or.inr sz_b202_0) (allS (Or.inr sz_b202_1) (allS (Or.inr sz_b202_2) (allS (Or.inr sz_b202_5) (allS (Or.inr sz_b202_3) all0))))))
      have F590_8f : Fld Z T590.heap b178 "com/example/upper_falls/upperfalls/HeldKeys" "used" "I" (.int (4 : Int32)) := F590_8
      obtain ⟨v76, hv76⟩ : ∃ z : Nat → Int64, z = (own_up v23 ((3 : Int32).toNatClampNeg) v4) := ⟨_, rfl⟩
      have F590_10n : own_AJ Z T590.heap b202_0 .long 16 v76 := by rw [hv76]; exact F590_10
      obtain ⟨v77, hv77⟩ : ∃ z : Nat → Int64, z = (own_up v24 ((3 : Int32).toNatClampNeg) (3 : Int64)) := ⟨_, rfl⟩
      have F590_11n : own_AJ Z T590.heap b202_1 .long 16 v77 := by rw [hv77]; exact F590_11
      obtain ⟨v78, hv78⟩ : ∃ z : Nat → Int64, z = (own_up v25 ((3 : Int32).toNatClampNeg) (0 : Int64)) := ⟨_, rfl⟩
      have F590_12n : own_AJ Z T590.heap b202_2 .long 16 v78 := by rw [hv78]; exact F590_12
      obtain ⟨v79, hv79⟩ : ∃ z : Nat → Int32, z = (own_up v26 ((own_E (own_F3 ((v1.toInt32) &&& (31 : Int32)) ((v2.toInt32) &&& (31 : Int32)) ((v3.toInt32) &&& (31 : Int32))) ((v4.toInt32) &&& (31 : Int32))).toNatClampNeg) (3 : Int32)) := ⟨_, rfl⟩
      have F590_13n : own_AI Z T590.heap b202_5 .int 32 v79 := by rw [hv79]; exact F590_13
      obtain ⟨v80, hv80⟩ : ∃ z : Nat → Int32, z = (own_up v75 ((3 : Int32).toNatClampNeg) ((v75 (3 : Int32).toNatClampNeg) + (1 : Int32))) := ⟨_, rfl⟩
      have F590_14n : own_AI Z T590.heap b202_3 .int 16 v80 := by rw [hv80]; exact F590_14
      have N590 := Fr.app N589 N590q
      have hgo607 : ∀ t, Steps p.tables e below (T590.setTop (mkF m 363 #[.val (.long q0), .second, .val (.long q1), .second, .val (.long q2), .second, .val (.long q3), .second, .val (.int p4), .val (.ref b101), .val (.ref b111), .val (.ref b127), .val (.ref b149), .val (.int (2 : Int32)), .val (.int (2 : Int32)), .val (.ref b178), .val (.int (0 : Int32)), .val (.int (1 : Int32)), .val (.int (2 : Int32)), .val (.int (0 : Int32)), .val (.int (0 : Int32)), .val (.int (1 : Int32)), .val (.int (2 : Int32)), .val (.int (0 : Int32)), .val (.int (1 : Int32)), .val (.int (2 : Int32)), .val (.int (3 : Int32)), .val (.int (3 : Int32))] [(.int (1 : Int32))])) t → Steps p.tables e below (T526.setTop (mkF m 207 #[.val (.long q0), .second, .val (.long q1), .second, .val (.long q2), .second, .val (.long q3), .second, .val (.int p4), .val (.ref b101), .val (.ref b111), .val (.ref b127), .val (.ref b149), .val (.int v5), .val (.int (2 : Int32)), .val (.ref b178), .val (.int (0 : Int32)), .val (.int (1 : Int32)), .val (.int (2 : Int32)), .unset, .unset, .unset, .unset, .unset, .unset, .unset, .unset, .unset] [])) t := by
        intro t kt
        show Steps p.tables e below (T526.setTop (mkF m 207 #[.val (.long q0), .second, .val (.long q1), .second, .val (.long q2), .second, .val (.long q3), .second, .val (.int p4), .val (.ref b101), .val (.ref b111), .val (.ref b127), .val (.ref b149), .val (.int v5), .val (.int (2 : Int32)), .val (.ref b178), .val (.int (0 : Int32)), .val (.int (1 : Int32)), .val (.int (2 : Int32)), .unset, .unset, .unset, .unset, .unset, .unset, .unset, .unset, .unset] [])) _
        rw [hs207_74]
        show Steps p.tables e below (T526.setTop (mkF m 207 #[.val (.long q0), .second, .val (.long q1), .second, .val (.long q2), .second, .val (.long q3), .second, .val (.int p4), .val (.ref b101), .val (.ref b111), .val (.ref b127), .val (.ref b149), .val (.int (2 : Int32)), .val (.int (2 : Int32)), .val (.ref b178), .val (.int (0 : Int32)), .val (.int (1 : Int32)), .val (.int (2 : Int32)), .unset, .unset, .unset, .unset, .unset, .unset, .unset, .unset, .unset] [])) _
        refine XS.aload X526.here hx rfl (hb hby at_207) rfl rfl ?_
        refine XS.iload X526.here hx rfl (hb hby at_209) rfl ?_
        show Steps p.tables e below (T526.setTop (mkF m 211 #[.val (.long q0), .second, .val (.long q1), .second, .val (.long q2), .second, .val (.long q3), .second, .val (.int p4), .val (.ref b101), .val (.ref b111), .val (.ref b127), .val (.ref b149), .val (.int (2 : Int32)), .val (.int (2 : Int32)), .val (.ref b178), .val (.int (0 : Int32)), .val (.int (1 : Int32)), .val (.int (2 : Int32)), .unset, .unset, .unset, .unset, .unset, .unset, .unset, .unset, .unset] [(.int (2 : Int32)), (.ref b178)])) _
        refine st557.trans ?_
        show Steps p.tables e below (T557.setTop (mkF m 214 #[.val (.long q0), .second, .val (.long q1), .second, .val (.long q2), .second, .val (.long q3), .second, .val (.int p4), .val (.ref b101), .val (.ref b111), .val (.ref b127), .val (.ref b149), .val (.int (2 : Int32)), .val (.int (2 : Int32)), .val (.ref b178), .val (.int (0 : Int32)), .val (.int (1 : Int32)), .val (.int (2 : Int32)), .unset, .unset, .unset, .unset, .unset, .unset, .unset, .unset, .unset] [])) _
        refine XS.iload X557.here hx rfl (hb hby at_214) rfl ?_
        refine XS.iload X557.here hx rfl (hb hby at_216) rfl ?_
        refine XS.icmpYes X557.here hx rfl (pc0 := 218) (pc' := 225) rfl (hb hby at_218) rfl (teq (by decide : (2 : Int32) = (2 : Int32))).1 (by decide) (by decide) ?_
        show Steps p.tables e below (T557.setTop (mkF m 225 #[.val (.long q0), .second, .val (.long q1), .second, .val (.long q2), .second, .val (.long q3), .second, .val (.int p4), .val (.ref b101), .val (.ref b111), .val (.ref b127), .val (.ref b149), .val (.int (2 : Int32)), .val (.int (2 : Int32)), .val (.ref b178), .val (.int (0 : Int32)), .val (.int (1 : Int32)), .val (.int (2 : Int32)), .unset, .unset, .unset, .unset, .unset, .unset, .unset, .unset, .unset] [])) _
        refine XS.iconst X557.here hx rfl (hb hby at_225) ?_
        refine XS.istore X557.here hx rfl (hb hby at_226) rfl (l' := #[.val (.long q0), .second, .val (.long q1), .second, .val (.long q2), .second, .val (.long q3), .second, .val (.int p4), .val (.ref b101), .val (.ref b111), .val (.ref b127), .val (.ref b149), .val (.int (2 : Int32)), .val (.int (2 : Int32)), .val (.ref b178), .val (.int (0 : Int32)), .val (.int (1 : Int32)), .val (.int (2 : Int32)), .val (.int (0 : Int32)), .unset, .unset, .unset, .unset, .unset, .unset, .unset, .unset]) rfl ?_
        show Steps p.tables e below (T557.setTop (mkF m 228 #[.val (.long q0), .second, .val (.long q1), .second, .val (.long q2), .second, .val (.long q3), .second, .val (.int p4), .val (.ref b101), .val (.ref b111), .val (.ref b127), .val (.ref b149), .val (.int (2 : Int32)), .val (.int (2 : Int32)), .val (.ref b178), .val (.int (0 : Int32)), .val (.int (1 : Int32)), .val (.int (2 : Int32)), .val (.int (0 : Int32)), .unset, .unset, .unset, .unset, .unset, .unset, .unset, .unset] [])) _
        refine XS.aload X557.here hx rfl (hb hby at_228) rfl rfl ?_
        refine XS.aload X557.here hx rfl (hb hby at_230) rfl rfl ?_
        show Steps p.tables e below (T557.setTop (mkF m 232 #[.val (.long q0), .second, .val (.long q1), .second, .val (.long q2), .second, .val (.long q3), .second, .val (.int p4), .val (.ref b101), .val (.ref b111), .val (.ref b127), .val (.ref b149), .val (.int (2 : Int32)), .val (.int (2 : Int32)), .val (.ref b178), .val (.int (0 : Int32)), .val (.int (1 : Int32)), .val (.int (2 : Int32)), .val (.int (0 : Int32)), .unset, .unset, .unset, .unset, .unset, .unset, .unset, .unset] [(.ref b101), (.ref b178)])) _
        refine st587.trans ?_
        show Steps p.tables e below (T587.setTop (mkF m 235 #[.val (.long q0), .second, .val (.long q1), .second, .val (.long q2), .second, .val (.long q3), .second, .val (.int p4), .val (.ref b101), .val (.ref b111), .val (.ref b127), .val (.ref b149), .val (.int (2 : Int32)), .val (.int (2 : Int32)), .val (.ref b178), .val (.int (0 : Int32)), .val (.int (1 : Int32)), .val (.int (2 : Int32)), .val (.int (0 : Int32)), .unset, .unset, .unset, .unset, .unset, .unset, .unset, .unset] [(.int (0 : Int32))])) _
        refine XS.istore X587.here hx rfl (hb hby at_235) rfl (l' := #[.val (.long q0), .second, .val (.long q1), .second, .val (.long q2), .second, .val (.long q3), .second, .val (.int p4), .val (.ref b101), .val (.ref b111), .val (.ref b127), .val (.ref b149), .val (.int (2 : Int32)), .val (.int (2 : Int32)), .val (.ref b178), .val (.int (0 : Int32)), .val (.int (1 : Int32)), .val (.int (2 : Int32)), .val (.int (0 : Int32)), .val (.int (0 : Int32)), .unset, .unset, .unset, .unset, .unset, .unset, .unset]) rfl ?_
        show Steps p.tables e below (T587.setTop (mkF m 237 #[.val (.long q0), .second, .val (.long q1), .second, .val (.long q2), .second, .val (.long q3), .second, .val (.int p4), .val (.ref b101), .val (.ref b111), .val (.ref b127), .val (.ref b149), .val (.int (2 : Int32)), .val (.int (2 : Int32)), .val (.ref b178), .val (.int (0 : Int32)), .val (.int (1 : Int32)), .val (.int (2 : Int32)), .val (.int (0 : Int32)), .val (.int (0 : Int32)), .unset, .unset, .unset, .unset, .unset, .unset, .unset] [])) _
        refine XS.aload X587.here hx rfl (hb hby at_237) rfl rfl ?_
        refine XS.aload X587.here hx rfl (hb hby at_239) rfl rfl ?_
        show Steps p.tables e below (T587.setTop (mkF m 241 #[.val (.long q0), .second, .val (.long q1), .second, .val (.long q2), .second, .val (.long q3), .second, .val (.int p4), .val (.ref b101), .val (.ref b111), .val (.ref b127), .val (.ref b149), .val (.int (2 : Int32)), .val (.int (2 : Int32)), .val (.ref b178), .val (.int (0 : Int32)), .val (.int (1 : Int32)), .val (.int (2 : Int32)), .val (.int (0 : Int32)), .val (.int (0 : Int32)), .unset, .unset, .unset, .unset, .unset, .unset, .unset] [(.ref b111), (.ref b178)])) _
        refine st588.trans ?_
        show Steps p.tables e below (T588.setTop (mkF m 244 #[.val (.long q0), .second, .val (.long q1), .second, .val (.long q2), .second, .val (.long q3), .second, .val (.int p4), .val (.ref b101), .val (.ref b111), .val (.ref b127), .val (.ref b149), .val (.int (2 : Int32)), .val (.int (2 : Int32)), .val (.ref b178), .val (.int (0 : Int32)), .val (.int (1 : Int32)), .val (.int (2 : Int32)), .val (.int (0 : Int32)), .val (.int (0 : Int32)), .unset, .unset, .unset, .unset, .unset, .unset, .unset] [(.int (1 : Int32))])) _
        refine XS.istore X588.here hx rfl (hb hby at_244) rfl (l' := #[.val (.long q0), .second, .val (.long q1), .second, .val (.long q2), .second, .val (.long q3), .second, .val (.int p4), .val (.ref b101), .val (.ref b111), .val (.ref b127), .val (.ref b149), .val (.int (2 : Int32)), .val (.int (2 : Int32)), .val (.ref b178), .val (.int (0 : Int32)), .val (.int (1 : Int32)), .val (.int (2 : Int32)), .val (.int (0 : Int32)), .val (.int (0 : Int32)), .val (.int (1 : Int32)), .unset, .unset, .unset, .unset, .unset, .unset]) rfl ?_
        show Steps p.tables e below (T588.setTop (mkF m 246 #[.val (.long q0), .second, .val (.long q1), .second, .val (.long q2), .second, .val (.long q3), .second, .val (.int p4), .val (.ref b101), .val (.ref b111), .val (.ref b127), .val (.ref b149), .val (.int (2 : Int32)), .val (.int (2 : Int32)), .val (.ref b178), .val (.int (0 : Int32)), .val (.int (1 : Int32)), .val (.int (2 : Int32)), .val (.int (0 : Int32)), .val (.int (0 : Int32)), .val (.int (1 : Int32)), .unset, .unset, .unset, .unset, .unset, .unset] [])) _
        refine XS.aload X588.here hx rfl (hb hby at_246) rfl rfl ?_
        refine XS.aload X588.here hx rfl (hb hby at_248) rfl rfl ?_
        show Steps p.tables e below (T588.setTop (mkF m 250 #[.val (.long q0), .second, .val (.long q1), .second, .val (.long q2), .second, .val (.long q3), .second, .val (.int p4), .val (.ref b101), .val (.ref b111), .val (.ref b127), .val (.ref b149), .val (.int (2 : Int32)), .val (.int (2 : Int32)), .val (.ref b178), .val (.int (0 : Int32)), .val (.int (1 : Int32)), .val (.int (2 : Int32)), .val (.int (0 : Int32)), .val (.int (0 : Int32)), .val (.int (1 : Int32)), .unset, .unset, .unset, .unset, .unset, .unset] [(.ref b127), (.ref b178)])) _
        refine st589.trans ?_
        show Steps p.tables e below (T589.setTop (mkF m 253 #[.val (.long q0), .second, .val (.long q1), .second, .val (.long q2), .second, .val (.long q3), .second, .val (.int p4), .val (.ref b101), .val (.ref b111), .val (.ref b127), .val (.ref b149), .val (.int (2 : Int32)), .val (.int (2 : Int32)), .val (.ref b178), .val (.int (0 : Int32)), .val (.int (1 : Int32)), .val (.int (2 : Int32)), .val (.int (0 : Int32)), .val (.int (0 : Int32)), .val (.int (1 : Int32)), .unset, .unset, .unset, .unset, .unset, .unset] [(.int (2 : Int32))])) _
        refine XS.istore X589.here hx rfl (hb hby at_253) rfl (l' := #[.val (.long q0), .second, .val (.long q1), .second, .val (.long q2), .second, .val (.long q3), .second, .val (.int p4), .val (.ref b101), .val (.ref b111), .val (.ref b127), .val (.ref b149), .val (.int (2 : Int32)), .val (.int (2 : Int32)), .val (.ref b178), .val (.int (0 : Int32)), .val (.int (1 : Int32)), .val (.int (2 : Int32)), .val (.int (0 : Int32)), .val (.int (0 : Int32)), .val (.int (1 : Int32)), .val (.int (2 : Int32)), .unset, .unset, .unset, .unset, .unset]) rfl ?_
        show Steps p.tables e below (T589.setTop (mkF m 255 #[.val (.long q0), .second, .val (.long q1), .second, .val (.long q2), .second, .val (.long q3), .second, .val (.int p4), .val (.ref b101), .val (.ref b111), .val (.ref b127), .val (.ref b149), .val (.int (2 : Int32)), .val (.int (2 : Int32)), .val (.ref b178), .val (.int (0 : Int32)), .val (.int (1 : Int32)), .val (.int (2 : Int32)), .val (.int (0 : Int32)), .val (.int (0 : Int32)), .val (.int (1 : Int32)), .val (.int (2 : Int32)), .unset, .unset, .unset, .unset, .unset] [])) _
        refine XS.iload X589.here hx rfl (hb hby at_255) rfl ?_
        refine XS.ifYes X589.here hx rfl (pc0 := 257) (pc' := 269) rfl (hb hby at_257) rfl ((if0 _ _).trans (teq (by decide : (0 : Int32) = (0 : Int32))).1) (by decide) (by decide) ?_
        show Steps p.tables e below (T589.setTop (mkF m 269 #[.val (.long q0), .second, .val (.long q1), .second, .val (.long q2), .second, .val (.long q3), .second, .val (.int p4), .val (.ref b101), .val (.ref b111), .val (.ref b127), .val (.ref b149), .val (.int (2 : Int32)), .val (.int (2 : Int32)), .val (.ref b178), .val (.int (0 : Int32)), .val (.int (1 : Int32)), .val (.int (2 : Int32)), .val (.int (0 : Int32)), .val (.int (0 : Int32)), .val (.int (1 : Int32)), .val (.int (2 : Int32)), .unset, .unset, .unset, .unset, .unset] [])) _
        refine XS.iconst X589.here hx rfl (hb hby at_269) ?_
        refine XS.istore X589.here hx rfl (hb hby at_270) rfl (l' := #[.val (.long q0), .second, .val (.long q1), .second, .val (.long q2), .second, .val (.long q3), .second, .val (.int p4), .val (.ref b101), .val (.ref b111), .val (.ref b127), .val (.ref b149), .val (.int (2 : Int32)), .val (.int (2 : Int32)), .val (.ref b178), .val (.int (0 : Int32)), .val (.int (1 : Int32)), .val (.int (2 : Int32)), .val (.int (0 : Int32)), .val (.int (0 : Int32)), .val (.int (1 : Int32)), .val (.int (2 : Int32)), .val (.int (0 : Int32)), .unset, .unset, .unset, .unset]) rfl ?_
        show Steps p.tables e below (T589.setTop (mkF m 272 #[.val (.long q0), .second, .val (.long q1), .second, .val (.long q2), .second, .val (.long q3), .second, .val (.int p4), .val (.ref b101), .val (.ref b111), .val (.ref b127), .val (.ref b149), .val (.int (2 : Int32)), .val (.int (2 : Int32)), .val (.ref b178), .val (.int (0 : Int32)), .val (.int (1 : Int32)), .val (.int (2 : Int32)), .val (.int (0 : Int32)), .val (.int (0 : Int32)), .val (.int (1 : Int32)), .val (.int (2 : Int32)), .val (.int (0 : Int32)), .unset, .unset, .unset, .unset] [])) _
        refine XS.iload X589.here hx rfl (hb hby at_272) rfl ?_
        refine XS.ifYes X589.here hx rfl (pc0 := 274) (pc' := 287) rfl (hb hby at_274) rfl ((if0 _ _).trans (teq (by decide : (0 : Int32) = (0 : Int32))).1) (by decide) (by decide) ?_
        show Steps p.tables e below (T589.setTop (mkF m 287 #[.val (.long q0), .second, .val (.long q1), .second, .val (.long q2), .second, .val (.long q3), .second, .val (.int p4), .val (.ref b101), .val (.ref b111), .val (.ref b127), .val (.ref b149), .val (.int (2 : Int32)), .val (.int (2 : Int32)), .val (.ref b178), .val (.int (0 : Int32)), .val (.int (1 : Int32)), .val (.int (2 : Int32)), .val (.int (0 : Int32)), .val (.int (0 : Int32)), .val (.int (1 : Int32)), .val (.int (2 : Int32)), .val (.int (0 : Int32)), .unset, .unset, .unset, .unset] [])) _
        refine XS.iconst X589.here hx rfl (hb hby at_287) ?_
        refine XS.istore X589.here hx rfl (hb hby at_288) rfl (l' := #[.val (.long q0), .second, .val (.long q1), .second, .val (.long q2), .second, .val (.long q3), .second, .val (.int p4), .val (.ref b101), .val (.ref b111), .val (.ref b127), .val (.ref b149), .val (.int (2 : Int32)), .val (.int (2 : Int32)), .val (.ref b178), .val (.int (0 : Int32)), .val (.int (1 : Int32)), .val (.int (2 : Int32)), .val (.int (0 : Int32)), .val (.int (0 : Int32)), .val (.int (1 : Int32)), .val (.int (2 : Int32)), .val (.int (0 : Int32)), .val (.int (1 : Int32)), .unset, .unset, .unset]) rfl ?_
        show Steps p.tables e below (T589.setTop (mkF m 290 #[.val (.long q0), .second, .val (.long q1), .second, .val (.long q2), .second, .val (.long q3), .second, .val (.int p4), .val (.ref b101), .val (.ref b111), .val (.ref b127), .val (.ref b149), .val (.int (2 : Int32)), .val (.int (2 : Int32)), .val (.ref b178), .val (.int (0 : Int32)), .val (.int (1 : Int32)), .val (.int (2 : Int32)), .val (.int (0 : Int32)), .val (.int (0 : Int32)), .val (.int (1 : Int32)), .val (.int (2 : Int32)), .val (.int (0 : Int32)), .val (.int (1 : Int32)), .unset, .unset, .unset] [])) _
        refine XS.iload X589.here hx rfl (hb hby at_290) rfl ?_
        refine XS.ifYes X589.here hx rfl (pc0 := 292) (pc' := 305) rfl (hb hby at_292) rfl ((if0 _ _).trans (teq (by decide : (0 : Int32) = (0 : Int32))).1) (by decide) (by decide) ?_
        show Steps p.tables e below (T589.setTop (mkF m 305 #[.val (.long q0), .second, .val (.long q1), .second, .val (.long q2), .second, .val (.long q3), .second, .val (.int p4), .val (.ref b101), .val (.ref b111), .val (.ref b127), .val (.ref b149), .val (.int (2 : Int32)), .val (.int (2 : Int32)), .val (.ref b178), .val (.int (0 : Int32)), .val (.int (1 : Int32)), .val (.int (2 : Int32)), .val (.int (0 : Int32)), .val (.int (0 : Int32)), .val (.int (1 : Int32)), .val (.int (2 : Int32)), .val (.int (0 : Int32)), .val (.int (1 : Int32)), .unset, .unset, .unset] [])) _
        refine XS.iconst X589.here hx rfl (hb hby at_305) ?_
        refine XS.istore X589.here hx rfl (hb hby at_306) rfl (l' := #[.val (.long q0), .second, .val (.long q1), .second, .val (.long q2), .second, .val (.long q3), .second, .val (.int p4), .val (.ref b101), .val (.ref b111), .val (.ref b127), .val (.ref b149), .val (.int (2 : Int32)), .val (.int (2 : Int32)), .val (.ref b178), .val (.int (0 : Int32)), .val (.int (1 : Int32)), .val (.int (2 : Int32)), .val (.int (0 : Int32)), .val (.int (0 : Int32)), .val (.int (1 : Int32)), .val (.int (2 : Int32)), .val (.int (0 : Int32)), .val (.int (1 : Int32)), .val (.int (2 : Int32)), .unset, .unset]) rfl ?_
        show Steps p.tables e below (T589.setTop (mkF m 308 #[.val (.long q0), .second, .val (.long q1), .second, .val (.long q2), .second, .val (.long q3), .second, .val (.int p4), .val (.ref b101), .val (.ref b111), .val (.ref b127), .val (.ref b149), .val (.int (2 : Int32)), .val (.int (2 : Int32)), .val (.ref b178), .val (.int (0 : Int32)), .val (.int (1 : Int32)), .val (.int (2 : Int32)), .val (.int (0 : Int32)), .val (.int (0 : Int32)), .val (.int (1 : Int32)), .val (.int (2 : Int32)), .val (.int (0 : Int32)), .val (.int (1 : Int32)), .val (.int (2 : Int32)), .unset, .unset] [])) _
        refine XS.aload X589.here hx rfl (hb hby at_308) rfl rfl ?_
        refine XS.aload X589.here hx rfl (hb hby at_310) rfl rfl ?_
        show Steps p.tables e below (T589.setTop (mkF m 312 #[.val (.long q0), .second, .val (.long q1), .second, .val (.long q2), .second, .val (.long q3), .second, .val (.int p4), .val (.ref b101), .val (.ref b111), .val (.ref b127), .val (.ref b149), .val (.int (2 : Int32)), .val (.int (2 : Int32)), .val (.ref b178), .val (.int (0 : Int32)), .val (.int (1 : Int32)), .val (.int (2 : Int32)), .val (.int (0 : Int32)), .val (.int (0 : Int32)), .val (.int (1 : Int32)), .val (.int (2 : Int32)), .val (.int (0 : Int32)), .val (.int (1 : Int32)), .val (.int (2 : Int32)), .unset, .unset] [(.ref b149), (.ref b178)])) _
        refine st590.trans ?_
        show Steps p.tables e below (T590.setTop (mkF m 315 #[.val (.long q0), .second, .val (.long q1), .second, .val (.long q2), .second, .val (.long q3), .second, .val (.int p4), .val (.ref b101), .val (.ref b111), .val (.ref b127), .val (.ref b149), .val (.int (2 : Int32)), .val (.int (2 : Int32)), .val (.ref b178), .val (.int (0 : Int32)), .val (.int (1 : Int32)), .val (.int (2 : Int32)), .val (.int (0 : Int32)), .val (.int (0 : Int32)), .val (.int (1 : Int32)), .val (.int (2 : Int32)), .val (.int (0 : Int32)), .val (.int (1 : Int32)), .val (.int (2 : Int32)), .unset, .unset] [(.int (3 : Int32))])) _
        refine XS.istore X590.here hx rfl (hb hby at_315) rfl (l' := #[.val (.long q0), .second, .val (.long q1), .second, .val (.long q2), .second, .val (.long q3), .second, .val (.int p4), .val (.ref b101), .val (.ref b111), .val (.ref b127), .val (.ref b149), .val (.int (2 : Int32)), .val (.int (2 : Int32)), .val (.ref b178), .val (.int (0 : Int32)), .val (.int (1 : Int32)), .val (.int (2 : Int32)), .val (.int (0 : Int32)), .val (.int (0 : Int32)), .val (.int (1 : Int32)), .val (.int (2 : Int32)), .val (.int (0 : Int32)), .val (.int (1 : Int32)), .val (.int (2 : Int32)), .val (.int (3 : Int32)), .unset]) rfl ?_
        show Steps p.tables e below (T590.setTop (mkF m 317 #[.val (.long q0), .second, .val (.long q1), .second, .val (.long q2), .second, .val (.long q3), .second, .val (.int p4), .val (.ref b101), .val (.ref b111), .val (.ref b127), .val (.ref b149), .val (.int (2 : Int32)), .val (.int (2 : Int32)), .val (.ref b178), .val (.int (0 : Int32)), .val (.int (1 : Int32)), .val (.int (2 : Int32)), .val (.int (0 : Int32)), .val (.int (0 : Int32)), .val (.int (1 : Int32)), .val (.int (2 : Int32)), .val (.int (0 : Int32)), .val (.int (1 : Int32)), .val (.int (2 : Int32)), .val (.int (3 : Int32)), .unset] [])) _
        refine XS.iload X590.here hx rfl (hb hby at_317) rfl ?_
        refine XS.ifYes X590.here hx rfl (pc0 := 319) (pc' := 327) rfl (hb hby at_319) rfl ((if0 _ _).trans (teq (by decide : (0 : Int32) = (0 : Int32))).1) (by decide) (by decide) ?_
        show Steps p.tables e below (T590.setTop (mkF m 327 #[.val (.long q0), .second, .val (.long q1), .second, .val (.long q2), .second, .val (.long q3), .second, .val (.int p4), .val (.ref b101), .val (.ref b111), .val (.ref b127), .val (.ref b149), .val (.int (2 : Int32)), .val (.int (2 : Int32)), .val (.ref b178), .val (.int (0 : Int32)), .val (.int (1 : Int32)), .val (.int (2 : Int32)), .val (.int (0 : Int32)), .val (.int (0 : Int32)), .val (.int (1 : Int32)), .val (.int (2 : Int32)), .val (.int (0 : Int32)), .val (.int (1 : Int32)), .val (.int (2 : Int32)), .val (.int (3 : Int32)), .unset] [])) _
        refine XS.iconst X590.here hx rfl (hb hby at_327) ?_
        refine XS.istore X590.here hx rfl (hb hby at_328) rfl (l' := #[.val (.long q0), .second, .val (.long q1), .second, .val (.long q2), .second, .val (.long q3), .second, .val (.int p4), .val (.ref b101), .val (.ref b111), .val (.ref b127), .val (.ref b149), .val (.int (2 : Int32)), .val (.int (2 : Int32)), .val (.ref b178), .val (.int (0 : Int32)), .val (.int (1 : Int32)), .val (.int (2 : Int32)), .val (.int (0 : Int32)), .val (.int (0 : Int32)), .val (.int (1 : Int32)), .val (.int (2 : Int32)), .val (.int (0 : Int32)), .val (.int (1 : Int32)), .val (.int (2 : Int32)), .val (.int (3 : Int32)), .val (.int (3 : Int32))]) rfl ?_
        show Steps p.tables e below (T590.setTop (mkF m 330 #[.val (.long q0), .second, .val (.long q1), .second, .val (.long q2), .second, .val (.long q3), .second, .val (.int p4), .val (.ref b101), .val (.ref b111), .val (.ref b127), .val (.ref b149), .val (.int (2 : Int32)), .val (.int (2 : Int32)), .val (.ref b178), .val (.int (0 : Int32)), .val (.int (1 : Int32)), .val (.int (2 : Int32)), .val (.int (0 : Int32)), .val (.int (0 : Int32)), .val (.int (1 : Int32)), .val (.int (2 : Int32)), .val (.int (0 : Int32)), .val (.int (1 : Int32)), .val (.int (2 : Int32)), .val (.int (3 : Int32)), .val (.int (3 : Int32))] [])) _
        refine XS.iload X590.here hx rfl (hb hby at_330) rfl ?_
        refine XS.iload X590.here hx rfl (hb hby at_332) rfl ?_
        refine XS.icmpNo X590.here hx rfl (hb hby at_334) rfl (teq (by decide : (0 : Int32) = (0 : Int32))).2 ?_
        show Steps p.tables e below (T590.setTop (mkF m 337 #[.val (.long q0), .second, .val (.long q1), .second, .val (.long q2), .second, .val (.long q3), .second, .val (.int p4), .val (.ref b101), .val (.ref b111), .val (.ref b127), .val (.ref b149), .val (.int (2 : Int32)), .val (.int (2 : Int32)), .val (.ref b178), .val (.int (0 : Int32)), .val (.int (1 : Int32)), .val (.int (2 : Int32)), .val (.int (0 : Int32)), .val (.int (0 : Int32)), .val (.int (1 : Int32)), .val (.int (2 : Int32)), .val (.int (0 : Int32)), .val (.int (1 : Int32)), .val (.int (2 : Int32)), .val (.int (3 : Int32)), .val (.int (3 : Int32))] [])) _
        refine XS.iload X590.here hx rfl (hb hby at_337) rfl ?_
        refine XS.iload X590.here hx rfl (hb hby at_339) rfl ?_
        refine XS.icmpNo X590.here hx rfl (hb hby at_341) rfl (teq (by decide : (1 : Int32) = (1 : Int32))).2 ?_
        show Steps p.tables e below (T590.setTop (mkF m 344 #[.val (.long q0), .second, .val (.long q1), .second, .val (.long q2), .second, .val (.long q3), .second, .val (.int p4), .val (.ref b101), .val (.ref b111), .val (.ref b127), .val (.ref b149), .val (.int (2 : Int32)), .val (.int (2 : Int32)), .val (.ref b178), .val (.int (0 : Int32)), .val (.int (1 : Int32)), .val (.int (2 : Int32)), .val (.int (0 : Int32)), .val (.int (0 : Int32)), .val (.int (1 : Int32)), .val (.int (2 : Int32)), .val (.int (0 : Int32)), .val (.int (1 : Int32)), .val (.int (2 : Int32)), .val (.int (3 : Int32)), .val (.int (3 : Int32))] [])) _
        refine XS.iload X590.here hx rfl (hb hby at_344) rfl ?_
        refine XS.iload X590.here hx rfl (hb hby at_346) rfl ?_
        refine XS.icmpNo X590.here hx rfl (hb hby at_348) rfl (teq (by decide : (2 : Int32) = (2 : Int32))).2 ?_
        show Steps p.tables e below (T590.setTop (mkF m 351 #[.val (.long q0), .second, .val (.long q1), .second, .val (.long q2), .second, .val (.long q3), .second, .val (.int p4), .val (.ref b101), .val (.ref b111), .val (.ref b127), .val (.ref b149), .val (.int (2 : Int32)), .val (.int (2 : Int32)), .val (.ref b178), .val (.int (0 : Int32)), .val (.int (1 : Int32)), .val (.int (2 : Int32)), .val (.int (0 : Int32)), .val (.int (0 : Int32)), .val (.int (1 : Int32)), .val (.int (2 : Int32)), .val (.int (0 : Int32)), .val (.int (1 : Int32)), .val (.int (2 : Int32)), .val (.int (3 : Int32)), .val (.int (3 : Int32))] [])) _
        refine XS.iload X590.here hx rfl (hb hby at_351) rfl ?_
        refine XS.iload X590.here hx rfl (hb hby at_353) rfl ?_
        refine XS.icmpNo X590.here hx rfl (hb hby at_355) rfl (teq (by decide : (3 : Int32) = (3 : Int32))).2 ?_
        show Steps p.tables e below (T590.setTop (mkF m 358 #[.val (.long q0), .second, .val (.long q1), .second, .val (.long q2), .second, .val (.long q3), .second, .val (.int p4), .val (.ref b101), .val (.ref b111), .val (.ref b127), .val (.ref b149), .val (.int (2 : Int32)), .val (.int (2 : Int32)), .val (.ref b178), .val (.int (0 : Int32)), .val (.int (1 : Int32)), .val (.int (2 : Int32)), .val (.int (0 : Int32)), .val (.int (0 : Int32)), .val (.int (1 : Int32)), .val (.int (2 : Int32)), .val (.int (0 : Int32)), .val (.int (1 : Int32)), .val (.int (2 : Int32)), .val (.int (3 : Int32)), .val (.int (3 : Int32))] [])) _
        refine XS.iconst X590.here hx rfl (hb hby at_358) ?_
        refine XS.goto X590.here hx rfl (pc0 := 359) (pc' := 363) rfl (hb hby at_359) (by decide) (by decide) ?_
        exact kt
      refine own_go hgo607 ?_
      exact own_retZ X590 hx Bd.returns Bd.notSynchronized (hb hby at_363) (by decide) (by decide) (Or.inr (rfl : (1 : Int32) = 1)) ⟨by rw [(rfl : (1 : Int32) = 1)], N590⟩
    · obtain ⟨rl0, rl1, rl2⟩ := own_rlt hr3
      have HHr := HH3 _ rl0
      obtain ⟨ca, cb, ⟨ck0, ck1, ck2⟩, ck3, cz3⟩ := own_c1 (own_fin2 (a := t0) (b := t1) (c := t2) (d := t3) hr3)
      rw [← ht0, ← ht1, ← ht2] at ca cb ck0 ck1 ck2 ck3 cz3
      rw [← ht3] at ck3 cz3
      have V4 := own_rmsV cb own_V3 (own_and31 _)
      obtain ⟨cq608, kq608, q608a, q608b, q608c⟩ := isOf hZ (rfl : T526.heap = T526.heap) F539
      obtain ⟨_, _, ⟨T608, L608, k608, n608⟩, -, X608, ⟨Lc608, hQ608, l608, y608, z608⟩, st608⟩ := X526.virtualBack hx (y := (⟨"com/example/upper_falls/upperfalls/HeldKeys", "release", "(I)V"⟩ : MethodName)) (z := (⟨"com/example/upper_falls/upperfalls/HeldKeys", "release", "(I)V"⟩ : MethodName)) hown (mvT hZ (own_wd hw 103 rfl)) (mvT hZ (own_wd hw 104 rfl)) (notFace_of_selects (args := #[]) (mvT hZ (own_wd hw 106 rfl))) (mvT hZ (own_wd hw 106 rfl)) (mvT hZ (own_wd hw 105 rfl)) (by decide) (backOf (W := 0) (rmrl l Z a0 hw [] b178 v5 b202_0 b202_1 b202_2 b202_3 b202_4 b202_5 v23 v24 v25 v73 v11 v26 (3 : Int32) (own_RS ((v1.toInt32) &&& (31 : Int32)) ((v2.toInt32) &&& (31 : Int32)) ((v3.toInt32) &&& (31 : Int32)) v5) 3 (own_HM ((v1.toInt32) &&& (31 : Int32)) ((v2.toInt32) &&& (31 : Int32)) ((v3.toInt32) &&& (31 : Int32))) (own_F4 ((v1.toInt32) &&& (31 : Int32)) ((v2.toInt32) &&& (31 : Int32)) ((v3.toInt32) &&& (31 : Int32)) v5) (T526.heap) n0 Z554 F539 F541 F542 F543 F544 F545 F546 F547 F548 F549 F550 F551 F552 F526_0n F540 F553 (rl1 : (¬ v5 < 0 ∧ v5.toNatClampNeg < 16)) ((by rcases hr3 with q | q | q <;> first | exact absurd q hs207_74 | (rw [q, hv73, hv27, hv22, hv17, hv10]; decide)) : ((v73 v5.toNatClampNeg) - (1 : Int32)) = (0 : Int32)) ((by rw [hF3]; exact own_V3) : own_V 3 v26) (by decide : 3 ≤ 3) (HH3 : own_HH 3 v23 (own_HM ((v1.toInt32) &&& (31 : Int32)) ((v2.toInt32) &&& (31 : Int32)) ((v3.toInt32) &&& (31 : Int32)))) ((by rw [hF3, HHr]; exact ca) : own_slt v26 v5 8 (((v23 v5.toNatClampNeg).toInt32) &&& (31 : Int32)) = some (own_RS ((v1.toInt32) &&& (31 : Int32)) ((v2.toInt32) &&& (31 : Int32)) ((v3.toInt32) &&& (31 : Int32)) v5)) ((by rw [hF3]; exact cb) : own_rms (own_HM ((v1.toInt32) &&& (31 : Int32)) ((v2.toInt32) &&& (31 : Int32)) ((v3.toInt32) &&& (31 : Int32))) 8 v26 (own_RS ((v1.toInt32) &&& (31 : Int32)) ((v2.toInt32) &&& (31 : Int32)) ((v3.toInt32) &&& (31 : Int32)) v5) (((own_RS ((v1.toInt32) &&& (31 : Int32)) ((v2.toInt32) &&& (31 : Int32)) ((v3.toInt32) &&& (31 : Int32)) v5) + (1 : Int32)) &&& (31 : Int32)) = some (own_F4 ((v1.toInt32) &&& (31 : Int32)) ((v2.toInt32) &&& (31 : Int32)) ((v3.toInt32) &&& (31 : Int32)) v5)) ne_b178_b202_3 F202_8 F202_12 F202_15 (Ne.symm F202_18) (Ne.symm F202_19) g_b202_3 g_b202_5 ne_b178_b202_5 F202_10 F202_14 F202_17 F202_20 F202_19 (Ne.symm ne_b178_b202_0) (Ne.symm ne_b178_b202_1) (Ne.symm ne_b178_b202_2) (Ne.symm ne_b178_b202_4) (Ne.symm ne_b178_b202_3) (Ne.symm ne_b178_b202_5) g_b178 ne_b178_b202_4 F202_9 F202_13 F202_16 F202_18 (Ne.symm F202_20) g_b202_4) hZ (own_wd hw 107 rfl) (own_wd hw 27 rfl) (by decide) (by decide)) q608a q608c (g := (mkF m 211 #[.val (.long q0), .second, .val (.long q1), .second, .val (.long q2), .second, .val (.long q3), .second, .val (.int p4), .val (.ref b101), .val (.ref b111), .val (.ref b127), .val (.ref b149), .val (.int v5), .val (.int (2 : Int32)), .val (.ref b178), .val (.int (0 : Int32)), .val (.int (1 : Int32)), .val (.int (2 : Int32)), .unset, .unset, .unset, .unset, .unset, .unset, .unset, .unset, .unset] [(.int v5), (.ref b178)])) rfl (by rw [hml]; rfl) (Steps.refl _) (argsL := [(.int v5)]) (rest := []) (lenOf pd14 rfl) rfl (by show 2 * 0 + _ ≤ _; exact Nat.le_of_eq rfl) (hb hby at_211) (fun _ _ => ⟨rfl, (rfl : T526.heap = T526.heap), (by decide : 11 + 0 ≤ _), (by decide : 129 + 0 ≤ _)⟩)
      dsimp only [Pt.U, Pt.locs, Pt.cells, Pt.slots] at X608 l608 y608 z608 st608 hQ608
      subst l608 y608 z608
      obtain ⟨rfl, N608q, K608q, F608_0, F608_1, F608_2, F608_3, F608_4, F608_5, F608_6, F608_7, F608_8, F608_9, F608_10, F608_11, F608_12⟩ := hQ608
      have F609 := F527.keep K608q
      have F610 := F528.keep K608q (ninS ne_b101_b202_3 (ninS ne_b101_b202_5 (ninS ne_b101_b178 (ninS ne_b101_b202_4 nin0))))
      have F611 := F529.keep K608q (ninS ne_b101_b202_3 (ninS ne_b101_b202_5 (ninS ne_b101_b178 (ninS ne_b101_b202_4 nin0))))
      have F612 := F530.keep K608q
      have F613 := F531.keep K608q (ninS ne_b111_b202_3 (ninS ne_b111_b202_5 (ninS ne_b111_b178 (ninS ne_b111_b202_4 nin0))))
      have F614 := F532.keep K608q (ninS ne_b111_b202_3 (ninS ne_b111_b202_5 (ninS ne_b111_b178 (ninS ne_b111_b202_4 nin0))))
      have F615 := F533.keep K608q
      have F616 := F534.keep K608q (ninS ne_b127_b202_3 (ninS ne_b127_b202_5 (ninS ne_b127_b178 (ninS ne_b127_b202_4 nin0))))
      have F617 := F535.keep K608q (ninS ne_b127_b202_3 (ninS ne_b127_b202_5 (ninS ne_b127_b178 (ninS ne_b127_b202_4 nin0))))
      have F618 := F536.keep K608q
      have F619 := F537.keep K608q (ninS ne_b149_b202_3 (ninS ne_b149_b202_5 (ninS ne_b149_b178 (ninS ne_b149_b202_4 nin0))))
      have F620 := F538.keep K608q (ninS ne_b149_b202_3 (ninS ne_b149_b202_5 (ninS ne_b149_b178 (ninS ne_b149_b202_4 nin0))))
      have F621 := F539.keep K608q
      have F622 := F550.keep K608q (ninS F202_8 (ninS F202_10 (ninS (Ne.symm ne_b178_b202_0) (ninS F202_9 nin0))))
      have F623 := F551.keep K608q (ninS F202_12 (ninS F202_14 (ninS (Ne.symm ne_b178_b202_1) (ninS F202_13 nin0))))
      have F624 := F552.keep K608q (ninS F202_15 (ninS F202_17 (ninS (Ne.symm ne_b178_b202_2) (ninS F202_16 nin0))))
      have Z625 : n0 ≤ T608.heap.size := Nat.le_trans Z554 K608q.1
      have K626 : Keep h0 T608.heap [] := K555.trans K608q (allS (Or.inr sz_b202_3) (allS (Or.inr sz_b202_5) (allS (Or.inr sz_b178) (allS (Or.inr sz_b202_4) all0))))
      obtain ⟨v81, hv81⟩ : ∃ z : Nat → Int32, z = (own_up v73 (v5.toNatClampNeg) ((v73 v5.toNatClampNeg) - (1 : Int32))) := ⟨_, rfl⟩
      have F608_0n : own_AI Z T608.heap b202_3 .int 16 v81 := by rw [hv81]; exact F608_0
      obtain ⟨v82, hv82⟩ : ∃ z : Nat → Int32, z = (own_F4 ((v1.toInt32) &&& (31 : Int32)) ((v2.toInt32) &&& (31 : Int32)) ((v3.toInt32) &&& (31 : Int32)) v5) := ⟨_, rfl⟩
      have F608_1n : own_AI Z T608.heap b202_5 .int 32 v82 := by rw [hv82]; exact F608_1
      obtain ⟨v83, hv83⟩ : ∃ z : Nat → Int32, z = (own_up v11 0 v5) := ⟨_, rfl⟩
      have F608_12n : own_AI Z T608.heap b202_4 .int 16 v83 := by rw [hv83]; exact F608_12
      have N608 := Fr.app N526 N608q
      have hF4 : v82 = (own_F4 ((v1.toInt32) &&& (31 : Int32)) ((v2.toInt32) &&& (31 : Int32)) ((v3.toInt32) &&& (31 : Int32)) v5) := hv82
      obtain ⟨cq627, kq627, q627a, q627b, q627c⟩ := isOf hZ (rfl : T608.heap = T608.heap) F608_2
      obtain ⟨_, _, ⟨T627, L627, k627, n627⟩, -, X627, ⟨Lc627, hQ627, l627, y627, z627⟩, st627⟩ := X608.virtualBack hx (y := (⟨"com/example/upper_falls/upperfalls/HeldKeys", "find", "(Lcom/example/upper_falls/upperfalls/KeyHash;)I"⟩ : MethodName)) (z := (⟨"com/example/upper_falls/upperfalls/HeldKeys", "find", "(Lcom/example/upper_falls/upperfalls/KeyHash;)I"⟩ : MethodName)) hown (mvT hZ (own_wd hw 108 rfl)) (mvT hZ (own_wd hw 77 rfl)) (notFace_of_selects (args := #[]) (mvT hZ (own_wd hw 79 rfl))) (mvT hZ (own_wd hw 79 rfl)) (mvT hZ (own_wd hw 78 rfl)) (by decide) (backOf (W := 0) (rmfd l Z a0 hw [] b178 b101 b202_5 b202_0 b202_1 v82 v23 v24 v1 (0 : Int64) (0 : Int32) 3 (if v5 = (0 : Int32) then (-1 : Int32) else (0 : Int32)) (T608.heap) n0 Z625 F608_2 F608_8 F608_3 F608_4 F608_1n F622 F623 F609 F610 F611 ((by rw [hF4]; exact V4) : own_V 3 v82) ((own_Mk (t := 0) (by decide) (by decide) rfl rfl G3 (fun _ => P0)) : own_M 3 v23 v24 (0 : Int32) v1 (0 : Int64)) (by decide : 3 ≤ 3) ((by rw [hF4]; exact ck0) : own_fnd v82 (0 : Int32) 8 ((v1.toInt32) &&& (31 : Int32)) = some (if v5 = (0 : Int32) then (-1 : Int32) else (0 : Int32)))) hZ (own_wd hw 80 rfl) (own_wd hw 27 rfl) (by decide) (by decide)) q627a q627c (g := (mkF m 232 #[.val (.long q0), .second, .val (.long q1), .second, .val (.long q2), .second, .val (.long q3), .second, .val (.int p4), .val (.ref b101), .val (.ref b111), .val (.ref b127), .val (.ref b149), .val (.int v5), .val (.int (2 : Int32)), .val (.ref b178), .val (.int (0 : Int32)), .val (.int (1 : Int32)), .val (.int (2 : Int32)), .val (.int (1 : Int32)), .unset, .unset, .unset, .unset, .unset, .unset, .unset, .unset] [(.ref b101), (.ref b178)])) rfl (by rw [hml]; rfl) (Steps.refl _) (argsL := [(.ref b101)]) (rest := []) (lenOf pd13 rfl) rfl (by show 2 * 0 + _ ≤ _; exact Nat.le_of_eq rfl) (hb hby at_232) (fun _ _ => ⟨rfl, (rfl : T608.heap = T608.heap), (by decide : 11 + 0 ≤ _), (by decide : 129 + 0 ≤ _)⟩)
      dsimp only [Pt.U, Pt.locs, Pt.cells, Pt.slots] at X627 l627 y627 z627 st627 hQ627
      subst l627 y627 z627
      obtain ⟨rfl, N627q, e627⟩ := hQ627
      have N627 := Fr.app N608 N627q
      obtain ⟨v84, hv84⟩ : ∃ z : Int32, z = (if v5 = (0 : Int32) then (-1 : Int32) else (0 : Int32)) := ⟨_, rfl⟩
      obtain ⟨cq628, kq628, q628a, q628b, q628c⟩ := isOf hZ e627 F608_2
      obtain ⟨_, _, ⟨T628, L628, k628, n628⟩, -, X628, ⟨Lc628, hQ628, l628, y628, z628⟩, st628⟩ := X627.virtualBack hx (y := (⟨"com/example/upper_falls/upperfalls/HeldKeys", "find", "(Lcom/example/upper_falls/upperfalls/KeyHash;)I"⟩ : MethodName)) (z := (⟨"com/example/upper_falls/upperfalls/HeldKeys", "find", "(Lcom/example/upper_falls/upperfalls/KeyHash;)I"⟩ : MethodName)) hown (mvT hZ (own_wd hw 108 rfl)) (mvT hZ (own_wd hw 77 rfl)) (notFace_of_selects (args := #[]) (mvT hZ (own_wd hw 79 rfl))) (mvT hZ (own_wd hw 79 rfl)) (mvT hZ (own_wd hw 78 rfl)) (by decide) (backOf (W := 0) (rmfd l Z a0 hw [] b178 b111 b202_5 b202_0 b202_1 v82 v23 v24 v2 (1 : Int64) (1 : Int32) 3 (if v5 = (1 : Int32) then (-1 : Int32) else (1 : Int32)) (T608.heap) n0 Z625 F608_2 F608_8 F608_3 F608_4 F608_1n F622 F623 F612 F613 F614 ((by rw [hF4]; exact V4) : own_V 3 v82) ((own_Mk (t := 1) (by decide) (by decide) rfl rfl G3 (fun _ => P1)) : own_M 3 v23 v24 (1 : Int32) v2 (1 : Int64)) (by decide : 3 ≤ 3) ((by rw [hF4]; exact ck1) : own_fnd v82 (1 : Int32) 8 ((v2.toInt32) &&& (31 : Int32)) = some (if v5 = (1 : Int32) then (-1 : Int32) else (1 : Int32)))) hZ (own_wd hw 80 rfl) (own_wd hw 27 rfl) (by decide) (by decide)) q628a q628c (g := (mkF m 241 #[.val (.long q0), .second, .val (.long q1), .second, .val (.long q2), .second, .val (.long q3), .second, .val (.int p4), .val (.ref b101), .val (.ref b111), .val (.ref b127), .val (.ref b149), .val (.int v5), .val (.int (2 : Int32)), .val (.ref b178), .val (.int (0 : Int32)), .val (.int (1 : Int32)), .val (.int (2 : Int32)), .val (.int (1 : Int32)), .val (.int v84), .unset, .unset, .unset, .unset, .unset, .unset, .unset] [(.ref b111), (.ref b178)])) rfl (by rw [hml]; rfl) (Steps.refl _) (argsL := [(.ref b111)]) (rest := []) (lenOf pd13 rfl) rfl (by show 2 * 0 + _ ≤ _; exact Nat.le_of_eq rfl) (hb hby at_241) (fun _ _ => ⟨rfl, e627, (by decide : 11 + 0 ≤ _), (by decide : 129 + 0 ≤ _)⟩)
      dsimp only [Pt.U, Pt.locs, Pt.cells, Pt.slots] at X628 l628 y628 z628 st628 hQ628
      subst l628 y628 z628
      obtain ⟨rfl, N628q, e628⟩ := hQ628
      have N628 := Fr.app N627 N628q
      obtain ⟨v85, hv85⟩ : ∃ z : Int32, z = (if v5 = (1 : Int32) then (-1 : Int32) else (1 : Int32)) := ⟨_, rfl⟩
      obtain ⟨cq629, kq629, q629a, q629b, q629c⟩ := isOf hZ e628 F608_2
      obtain ⟨_, _, ⟨T629, L629, k629, n629⟩, -, X629, ⟨Lc629, hQ629, l629, y629, z629⟩, st629⟩ := X628.virtualBack hx (y := (⟨"com/example/upper_falls/upperfalls/HeldKeys", "find", "(Lcom/example/upper_falls/upperfalls/KeyHash;)I"⟩ : MethodName)) (z := (⟨"com/example/upper_falls/upperfalls/HeldKeys", "find", "(Lcom/example/upper_falls/upperfalls/KeyHash;)I"⟩ : MethodName)) hown (mvT hZ (own_wd hw 108 rfl)) (mvT hZ (own_wd hw 77 rfl)) (notFace_of_selects (args := #[]) (mvT hZ (own_wd hw 79 rfl))) (mvT hZ (own_wd hw 79 rfl)) (mvT hZ (own_wd hw 78 rfl)) (by decide) (backOf (W := 0) (rmfd l Z a0 hw [] b178 b127 b202_5 b202_0 b202_1 v82 v23 v24 v3 (2 : Int64) (2 : Int32) 3 (2 : Int32) (T608.heap) n0 Z625 F608_2 F608_8 F608_3 F608_4 F608_1n F622 F623 F615 F616 F617 ((by rw [hF4]; exact V4) : own_V 3 v82) ((own_Mk (t := 2) (by decide) (by decide) rfl rfl G3 (fun _ => P2)) : own_M 3 v23 v24 (2 : Int32) v3 (2 : Int64)) (by decide : 3 ≤ 3) ((by rw [hF4, ck2, if_neg hs207_74]) : own_fnd v82 (2 : Int32) 8 ((v3.toInt32) &&& (31 : Int32)) = some (2 : Int32))) hZ (own_wd hw 80 rfl) (own_wd hw 27 rfl) (by decide) (by decide)) q629a q629c (g := (mkF m 250 #[.val (.long q0), .second, .val (.long q1), .second, .val (.long q2), .second, .val (.long q3), .second, .val (.int p4), .val (.ref b101), .val (.ref b111), .val (.ref b127), .val (.ref b149), .val (.int v5), .val (.int (2 : Int32)), .val (.ref b178), .val (.int (0 : Int32)), .val (.int (1 : Int32)), .val (.int (2 : Int32)), .val (.int (1 : Int32)), .val (.int v84), .val (.int v85), .unset, .unset, .unset, .unset, .unset, .unset] [(.ref b127), (.ref b178)])) rfl (by rw [hml]; rfl) (Steps.refl _) (argsL := [(.ref b127)]) (rest := []) (lenOf pd13 rfl) rfl (by show 2 * 0 + _ ≤ _; exact Nat.le_of_eq rfl) (hb hby at_250) (fun _ _ => ⟨rfl, e628, (by decide : 11 + 0 ≤ _), (by decide : 129 + 0 ≤ _)⟩)
      dsimp only [Pt.U, Pt.locs, Pt.cells, Pt.slots] at X629 l629 y629 z629 st629 hQ629
      subst l629 y629 z629
      obtain ⟨rfl, N629q, e629⟩ := hQ629
      have N629 := Fr.app N628 N629q
      obtain ⟨T632, lc632, X632, N632, e632, st632⟩ := own_mrg (n0 := n0) (h := T608.heap) (g := (mkF m 262 #[.val (.long q0), .second, .val (.long q1), .second, .val (.long q2), .second, .val (.long q3), .second, .val (.int p4), .val (.ref b101), .val (.ref b111), .val (.ref b127), .val (.ref b149), .val (.int v5), .val (.int (2 : Int32)), .val (.ref b178), .val (.int (0 : Int32)), .val (.int (1 : Int32)), .val (.int (2 : Int32)), .val (.int (1 : Int32)), .val (.int v84), .val (.int v85), .val (.int (2 : Int32)), .unset, .unset, .unset, .unset, .unset] [(.int v5)])) (g' := (mkF m 270 #[.val (.long q0), .second, .val (.long q1), .second, .val (.long q2), .second, .val (.long q3), .second, .val (.int p4), .val (.ref b101), .val (.ref b111), .val (.ref b127), .val (.ref b149), .val (.int v5), .val (.int (2 : Int32)), .val (.ref b178), .val (.int (0 : Int32)), .val (.int (1 : Int32)), .val (.int (2 : Int32)), .val (.int (1 : Int32)), .val (.int v84), .val (.int v85), .val (.int (2 : Int32)), .unset, .unset, .unset, .unset, .unset] [(.int v84)])) X629 (by
        by_cases hc262_86 : v5 = (0 : Int32)
        · have hgo630 : ∀ t, Steps p.tables e below (T629.setTop (mkF m 270 #[.val (.long q0), .second, .val (.long q1), .second, .val (.long q2), .second, .val (.long q3), .second, .val (.int p4), .val (.ref b101), .val (.ref b111), .val (.ref b127), .val (.ref b149), .val (.int v5), .val (.int (2 : Int32)), .val (.ref b178), .val (.int (0 : Int32)), .val (.int (1 : Int32)), .val (.int (2 : Int32)), .val (.int (1 : Int32)), .val (.int v84), .val (.int v85), .val (.int (2 : Int32)), .unset, .unset, .unset, .unset, .unset] [(.int (-1 : Int32))])) t → Steps p.tables e below (T629.setTop (mkF m 262 #[.val (.long q0), .second, .val (.long q1), .second, .val (.long q2), .second, .val (.long q3), .second, .val (.int p4), .val (.ref b101), .val (.ref b111), .val (.ref b127), .val (.ref b149), .val (.int v5), .val (.int (2 : Int32)), .val (.ref b178), .val (.int (0 : Int32)), .val (.int (1 : Int32)), .val (.int (2 : Int32)), .val (.int (1 : Int32)), .val (.int v84), .val (.int v85), .val (.int (2 : Int32)), .unset, .unset, .unset, .unset, .unset] [(.int v5)])) t := by
            intro t kt
            show Steps p.tables e below (T629.setTop (mkF m 262 #[.val (.long q0), .second, .val (.long q1), .second, .val (.long q2), .second, .val (.long q3), .second, .val (.int p4), .val (.ref b101), .val (.ref b111), .val (.ref b127), .val (.ref b149), .val (.int v5), .val (.int (2 : Int32)), .val (.ref b178), .val (.int (0 : Int32)), .val (.int (1 : Int32)), .val (.int (2 : Int32)), .val (.int (1 : Int32)), .val (.int v84), .val (.int v85), .val (.int (2 : Int32)), .unset, .unset, .unset, .unset, .unset] [(.int v5)])) _
            refine XS.ifNo X629.here hx rfl (hb hby at_262) rfl ((if0 _ _).trans (teq hc262_86).2) ?_
            show Steps p.tables e below (T629.setTop (mkF m 265 #[.val (.long q0), .second, .val (.long q1), .second, .val (.long q2), .second, .val (.long q3), .second, .val (.int p4), .val (.ref b101), .val (.ref b111), .val (.ref b127), .val (.ref b149), .val (.int v5), .val (.int (2 : Int32)), .val (.ref b178), .val (.int (0 : Int32)), .val (.int (1 : Int32)), .val (.int (2 : Int32)), .val (.int (1 : Int32)), .val (.int v84), .val (.int v85), .val (.int (2 : Int32)), .unset, .unset, .unset, .unset, .unset] [])) _
            refine XS.iconst X629.here hx rfl (hb hby at_265) ?_
            refine XS.goto X629.here hx rfl (pc0 := 266) (pc' := 270) rfl (hb hby at_266) (by decide) (by decide) ?_
            exact kt
          refine own_arm hgo630 ?_
          exact own_armEnd X629 N629 e629 (by rw [hv84.trans (if_pos hc262_86)])
        · have hgo631 : ∀ t, Steps p.tables e below (T629.setTop (mkF m 270 #[.val (.long q0), .second, .val (.long q1), .second, .val (.long q2), .second, .val (.long q3), .second, .val (.int p4), .val (.ref b101), .val (.ref b111), .val (.ref b127), .val (.ref b149), .val (.int v5), .val (.int (2 : Int32)), .val (.ref b178), .val (.int (0 : Int32)), .val (.int (1 : Int32)), .val (.int (2 : Int32)), .val (.int (1 : Int32)), .val (.int v84), .val (.int v85), .val (.int (2 : Int32)), .unset, .unset, .unset, .unset, .unset] [(.int (0 : Int32))])) t → Steps p.tables e below (T629.setTop (mkF m 262 #[.val (.long q0), .second, .val (.long q1), .second, .val (.long q2), .second, .val (.long q3), .second, .val (.int p4), .val (.ref b101), .val (.ref b111), .val (.ref b127), .val (.ref b149), .val (.int v5), .val (.int (2 : Int32)), .val (.ref b178), .val (.int (0 : Int32)), .val (.int (1 : Int32)), .val (.int (2 : Int32)), .val (.int (1 : Int32)), .val (.int v84), .val (.int v85), .val (.int (2 : Int32)), .unset, .unset, .unset, .unset, .unset] [(.int v5)])) t := by
            intro t kt
            show Steps p.tables e below (T629.setTop (mkF m 262 #[.val (.long q0), .second, .val (.long q1), .second, .val (.long q2), .second, .val (.long q3), .second, .val (.int p4), .val (.ref b101), .val (.ref b111), .val (.ref b127), .val (.ref b149), .val (.int v5), .val (.int (2 : Int32)), .val (.ref b178), .val (.int (0 : Int32)), .val (.int (1 : Int32)), .val (.int (2 : Int32)), .val (.int (1 : Int32)), .val (.int v84), .val (.int v85), .val (.int (2 : Int32)), .unset, .unset, .unset, .unset, .unset] [(.int v5)])) _
            refine XS.ifYes X629.here hx rfl (pc0 := 262) (pc' := 269) rfl (hb hby at_262) rfl ((if0 _ _).trans (feq hc262_86).2) (by decide) (by decide) ?_
            show Steps p.tables e below (T629.setTop (mkF m 269 #[.val (.long q0), .second, .val (.long q1), .second, .val (.long q2), .second, .val (.long q3), .second, .val (.int p4), .val (.ref b101), .val (.ref b111), .val (.ref b127), .val (.ref b149), .val (.int v5), .val (.int (2 : Int32)), .val (.ref b178), .val (.int (0 : Int32)), .val (.int (1 : Int32)), .val (.int (2 : Int32)), .val (.int (1 : Int32)), .val (.int v84), .val (.int v85), .val (.int (2 : Int32)), .unset, .unset, .unset, .unset, .unset] [])) _
            refine XS.iconst X629.here hx rfl (hb hby at_269) ?_
            exact kt
          refine own_arm hgo631 ?_
          exact own_armEnd X629 N629 e629 (by rw [hv84.trans (if_neg hc262_86)]))
      obtain ⟨T635, lc635, X635, N635, e635, st635⟩ := own_mrg (n0 := n0) (h := T608.heap) (g := (mkF m 280 #[.val (.long q0), .second, .val (.long q1), .second, .val (.long q2), .second, .val (.long q3), .second, .val (.int p4), .val (.ref b101), .val (.ref b111), .val (.ref b127), .val (.ref b149), .val (.int v5), .val (.int (2 : Int32)), .val (.ref b178), .val (.int (0 : Int32)), .val (.int (1 : Int32)), .val (.int (2 : Int32)), .val (.int (1 : Int32)), .val (.int v84), .val (.int v85), .val (.int (2 : Int32)), .val (.int v84), .unset, .unset, .unset, .unset] [(.int (1 : Int32)), (.int v5)])) (g' := (mkF m 288 #[.val (.long q0), .second, .val (.long q1), .second, .val (.long q2), .second, .val (.long q3), .second, .val (.int p4), .val (.ref b101), .val (.ref b111), .val (.ref b127), .val (.ref b149), .val (.int v5), .val (.int (2 : Int32)), .val (.ref b178), .val (.int (0 : Int32)), .val (.int (1 : Int32)), .val (.int (2 : Int32)), .val (.int (1 : Int32)), .val (.int v84), .val (.int v85), .val (.int (2 : Int32)), .val (.int v84), .unset, .unset, .unset, .unset] [(.int v85)])) X632 (by
        by_cases hc280_87 : v5 = (1 : Int32)
        · have hgo633 : ∀ t, Steps p.tables e below (T632.setTop (mkF m 288 #[.val (.long q0), .second, .val (.long q1), .second, .val (.long q2), .second, .val (.long q3), .second, .val (.int p4), .val (.ref b101), .val (.ref b111), .val (.ref b127), .val (.ref b149), .val (.int v5), .val (.int (2 : Int32)), .val (.ref b178), .val (.int (0 : Int32)), .val (.int (1 : Int32)), .val (.int (2 : Int32)), .val (.int (1 : Int32)), .val (.int v84), .val (.int v85), .val (.int (2 : Int32)), .val (.int v84), .unset, .unset, .unset, .unset] [(.int (-1 : Int32))])) t → Steps p.tables e below (T632.setTop (mkF m 280 #[.val (.long q0), .second, .val (.long q1), .second, .val (.long q2), .second, .val (.long q3), .second, .val (.int p4), .val (.ref b101), .val (.ref b111), .val (.ref b127), .val (.ref b149), .val (.int v5), .val (.int (2 : Int32)), .val (.ref b178), .val (.int (0 : Int32)), .val (.int (1 : Int32)), .val (.int (2 : Int32)), .val (.int (1 : Int32)), .val (.int v84), .val (.int v85), .val (.int (2 : Int32)), .val (.int v84), .unset, .unset, .unset, .unset] [(.int (1 : Int32)), (.int v5)])) t := by
            intro t kt
            show Steps p.tables e below (T632.setTop (mkF m 280 #[.val (.long q0), .second, .val (.long q1), .second, .val (.long q2), .second, .val (.long q3), .second, .val (.int p4), .val (.ref b101), .val (.ref b111), .val (.ref b127), .val (.ref b149), .val (.int v5), .val (.int (2 : Int32)), .val (.ref b178), .val (.int (0 : Int32)), .val (.int (1 : Int32)), .val (.int (2 : Int32)), .val (.int (1 : Int32)), .val (.int v84), .val (.int v85), .val (.int (2 : Int32)), .val (.int v84), .unset, .unset, .unset, .unset] [(.int (1 : Int32)), (.int v5)])) _
            refine XS.icmpNo X632.here hx rfl (hb hby at_280) rfl (teq hc280_87).2 ?_
            show Steps p.tables e below (T632.setTop (mkF m 283 #[.val (.long q0), .second, .val (.long q1), .second, .val (.long q2), .second, .val (.long q3), .second, .val (.int p4), .val (.ref b101), .val (.ref b111), .val (.ref b127), .val (.ref b149), .val (.int v5), .val (.int (2 : Int32)), .val (.ref b178), .val (.int (0 : Int32)), .val (.int (1 : Int32)), .val (.int (2 : Int32)), .val (.int (1 : Int32)), .val (.int v84), .val (.int v85), .val (.int (2 : Int32)), .val (.int v84), .unset, .unset, .unset, .unset] [])) _
            refine XS.iconst X632.here hx rfl (hb hby at_283) ?_
            refine XS.goto X632.here hx rfl (pc0 := 284) (pc' := 288) rfl (hb hby at_284) (by decide) (by decide) ?_
            exact kt
          refine own_arm hgo633 ?_
          exact own_armEnd X632 N632 e632 (by rw [hv85.trans (if_pos hc280_87)])
        · have hgo634 : ∀ t, Steps p.tables e below (T632.setTop (mkF m 288 #[.val (.long q0), .second, .val (.long q1), .second, .val (.long q2), .second, .val (.long q3), .second, .val (.int p4), .val (.ref b101), .val (.ref b111), .val (.ref b127), .val (.ref b149), .val (.int v5), .val (.int (2 : Int32)), .val (.ref b178), .val (.int (0 : Int32)), .val (.int (1 : Int32)), .val (.int (2 : Int32)), .val (.int (1 : Int32)), .val (.int v84), .val (.int v85), .val (.int (2 : Int32)), .val (.int v84), .unset, .unset, .unset, .unset] [(.int (1 : Int32))])) t → Steps p.tables e below (T632.setTop (mkF m 280 #[.val (.long q0), .second, .val (.long q1), .second, .val (.long q2), .second, .val (.long q3), .second, .val (.int p4), .val (.ref b101), .val (.ref b111), .val (.ref b127), .val (.ref b149), .val (.int v5), .val (.int (2 : Int32)), .val (.ref b178), .val (.int (0 : Int32)), .val (.int (1 : Int32)), .val (.int (2 : Int32)), .val (.int (1 : Int32)), .val (.int v84), .val (.int v85), .val (.int (2 : Int32)), .val (.int v84), .unset, .unset, .unset, .unset] [(.int (1 : Int32)), (.int v5)])) t := by
            intro t kt
            show Steps p.tables e below (T632.setTop (mkF m 280 #[.val (.long q0), .second, .val (.long q1), .second, .val (.long q2), .second, .val (.long q3), .second, .val (.int p4), .val (.ref b101), .val (.ref b111), .val (.ref b127), .val (.ref b149), .val (.int v5), .val (.int (2 : Int32)), .val (.ref b178), .val (.int (0 : Int32)), .val (.int (1 : Int32)), .val (.int (2 : Int32)), .val (.int (1 : Int32)), .val (.int v84), .val (.int v85), .val (.int (2 : Int32)), .val (.int v84), .unset, .unset, .unset, .unset] [(.int (1 : Int32)), (.int v5)])) _
            refine XS.icmpYes X632.here hx rfl (pc0 := 280) (pc' := 287) rfl (hb hby at_280) rfl (feq hc280_87).2 (by decide) (by decide) ?_
            show Steps p.tables e below (T632.setTop (mkF m 287 #[.val (.long q0), .second, .val (.long q1), .second, .val (.long q2), .second, .val (.long q3), .second, .val (.int p4), .val (.ref b101), .val (.ref b111), .val (.ref b127), .val (.ref b149), .val (.int v5), .val (.int (2 : Int32)), .val (.ref b178), .val (.int (0 : Int32)), .val (.int (1 : Int32)), .val (.int (2 : Int32)), .val (.int (1 : Int32)), .val (.int v84), .val (.int v85), .val (.int (2 : Int32)), .val (.int v84), .unset, .unset, .unset, .unset] [])) _
            refine XS.iconst X632.here hx rfl (hb hby at_287) ?_
            exact kt
          refine own_arm hgo634 ?_
          exact own_armEnd X632 N632 e632 (by rw [hv85.trans (if_neg hc280_87)]))
      obtain ⟨cq636, kq636, q636a, q636b, q636c⟩ := isOf hZ e635 F608_2
      obtain ⟨_, _, ⟨T636, L636, k636, n636⟩, -, X636, ⟨Lc636, hQ636, l636, y636, z636⟩, st636⟩ := X635.virtualBack hx (y := (⟨"com/example/upper_falls/upperfalls/HeldKeys", "hold", "(Lcom/example/upper_falls/upperfalls/KeyHash;)I"⟩ : MethodName)) (z := (⟨"com/example/upper_falls/upperfalls/HeldKeys", "hold", "(Lcom/example/upper_falls/upperfalls/KeyHash;)I"⟩ : MethodName)) hown (mvT hZ (own_wd hw 71 rfl)) (mvT hZ (own_wd hw 72 rfl)) (notFace_of_selects (args := #[]) (mvT hZ (own_wd hw 74 rfl))) (mvT hZ (own_wd hw 74 rfl)) (mvT hZ (own_wd hw 73 rfl)) (by decide) (backOf (W := 0) (rmhf l Z a0 hw [] b178 b149 b202_0 b202_1 b202_2 b202_3 b202_4 b202_5 v23 v24 v25 v81 v83 v82 v4 (3 : Int64) (3 : Int32) (3 : Int32) 3 (own_E (own_F4 ((v1.toInt32) &&& (31 : Int32)) ((v2.toInt32) &&& (31 : Int32)) ((v3.toInt32) &&& (31 : Int32)) v5) ((v4.toInt32) &&& (31 : Int32))) (T608.heap) n0 Z625 F608_2 F608_3 F608_4 F608_5 F608_6 F608_7 F608_8 F608_9 F608_10 F608_11 F622 F623 F624 F608_0n F608_12n F608_1n F618 F619 F620 ((by rw [hF4]; exact V4) : own_V 3 v82) ((own_Mk (t := 3) (by decide) (by decide) rfl rfl G3 (fun q => absurd q (by decide))) : own_M 3 v23 v24 (3 : Int32) v4 (3 : Int64)) (by decide : 3 ≤ 3) ((by rw [hF4]; exact ck3) : own_fnd v82 (3 : Int32) 8 ((v4.toInt32) &&& (31 : Int32)) = some (-1 : Int32)) ((by rw [hv83]; exact rl1) : (¬ (v83 0) < 0 ∧ (v83 0).toNatClampNeg < 16)) ((by rw [hF4]; exact cz3) : own_emp v82 8 ((v4.toInt32) &&& (31 : Int32)) = some (own_E (own_F4 ((v1.toInt32) &&& (31 : Int32)) ((v2.toInt32) &&& (31 : Int32)) ((v3.toInt32) &&& (31 : Int32)) v5) ((v4.toInt32) &&& (31 : Int32)))) (Ne.symm ne_b178_b202_0) (Ne.symm ne_b178_b202_1) (Ne.symm ne_b178_b202_2) (Ne.symm ne_b178_b202_3) (Ne.symm ne_b178_b202_4) (Ne.symm ne_b178_b202_5) ne_b149_b178 g_b178 ne_b178_b202_0 (Ne.symm F202_6) (Ne.symm F202_7) (Ne.symm F202_8) (Ne.symm F202_9) (Ne.symm F202_10) ne_b149_b202_0 g_b202_0 ne_b178_b202_1 (Ne.symm F202_11) (Ne.symm F202_12) (Ne.symm F202_13) (Ne.symm F202_14) ne_b149_b202_1 F202_6 g_b202_1 ne_b178_b202_2 (Ne.symm F202_15) (Ne.symm F202_16) (Ne.symm F202_17) ne_b149_b202_2 F202_7 F202_11 g_b202_2 ne_b178_b202_5 F202_19 F202_20 ne_b149_b202_5 F202_10 F202_14 F202_17 g_b202_5 ne_b178_b202_3 (Ne.symm F202_18) ne_b149_b202_3 F202_8 F202_12 F202_15 (Ne.symm F202_19) g_b202_3) hZ (own_wd hw 75 rfl) (own_wd hw 27 rfl) (by decide) (by decide)) q636a q636c (g := (mkF m 312 #[.val (.long q0), .second, .val (.long q1), .second, .val (.long q2), .second, .val (.long q3), .second, .val (.int p4), .val (.ref b101), .val (.ref b111), .val (.ref b127), .val (.ref b149), .val (.int v5), .val (.int (2 : Int32)), .val (.ref b178), .val (.int (0 : Int32)), .val (.int (1 : Int32)), .val (.int (2 : Int32)), .val (.int (1 : Int32)), .val (.int v84), .val (.int v85), .val (.int (2 : Int32)), .val (.int v84), .val (.int v85), .val (.int (2 : Int32)), .unset, .unset] [(.ref b149), (.ref b178)])) rfl (by rw [hml]; rfl) (Steps.refl _) (argsL := [(.ref b149)]) (rest := []) (lenOf pd13 rfl) rfl (by show 2 * 0 + _ ≤ _; exact Nat.le_of_eq rfl) (hb hby at_312) (fun _ _ => ⟨rfl, e635, (by decide : 11 + 0 ≤ _), (by decide : 129 + 0 ≤ _)⟩)
      dsimp only [Pt.U, Pt.locs, Pt.cells, Pt.slots] at X636 l636 y636 z636 st636 hQ636
      subst l636 y636 z636
      obtain ⟨rfl, N636q, K636q, F636_0, F636_1, F636_2, F636_3, F636_4, F636_5, F636_6, F636_7, F636_8, F636_9, F636_10, F636_11, F636_12, F636_13, F636_14⟩ := hQ636
      have F637 := F609.keep K636q
      have F638 := F610.keep K636q (ninS ne_b101_b178 (ninS ne_b101_b202_0 (ninS ne_b101_b202_1 (ninS ne_b101_b202_2 (ninS ne_b101_b202_5 (ninS ne_b101_b202_3 nin0))))))
      have F639 := F611.keep K636q (ninS ne_b101_b178 (ninS ne_b101_b202_0 (ninS ne_b101_b202_1 (ninS ne_b101_b202_2 (ninS ne_b101_b202_5 (ninS ne_b101_b202_3 nin0))))))
      have F640 := F612.keep K636q
      have F641 := F613.keep K636q (ninS ne_b111_b178 (ninS ne_b111_b202_0 (ninS ne_b111_b202_1 (ninS ne_b111_b202_2 (ninS ne_b111_b202_5 (ninS ne_b111_b202_3 nin0))))))
      have F642 := F614.keep K636q (ninS ne_b111_b178 (ninS ne_b111_b202_0 (ninS ne_b111_b202_1 (ninS ne_b111_b202_2 (ninS ne_b111_b202_5 (ninS ne_b111_b202_3 nin0))))))
      have F643 := F615.keep K636q
      have F644 := F616.keep K636q (ninS ne_b127_b178 (ninS ne_b127_b202_0 (ninS ne_b127_b202_1 (ninS ne_b127_b202_2 (ninS ne_b127_b202_5 (ninS ne_b127_b202_3 nin0))))))
      have F645 := F617.keep K636q (ninS ne_b127_b178 (ninS ne_b127_b202_0 (ninS ne_b127_b202_1 (ninS ne_b127_b202_2 (ninS ne_b127_b202_5 (ninS ne_b127_b202_3 nin0))))))
      have F646 := F618.keep K636q
      have F647 := F619.keep K636q (ninS ne_b149_b178 (ninS ne_b149_b202_0 (ninS ne_b149_b202_1 (ninS ne_b149_b202_2 (ninS ne_b149_b202_5 (ninS ne_b149_b202_3 nin0))))))
      have F648 := F620.keep K636q (ninS ne_b149_b178 (ninS ne_b149_b202_0 (ninS ne_b149_b202_1 (ninS ne_b149_b202_2 (ninS ne_b149_b202_5 (ninS ne_b149_b202_3 nin0))))))
      have F649 := F608_2.keep K636q
      have F650 := F608_12n.keep K636q (ninS (Ne.symm ne_b178_b202_4) (ninS (Ne.symm F202_9) (ninS (Ne.symm F202_13) (ninS (Ne.symm F202_16) (ninS F202_20 (ninS (Ne.symm F202_18) nin0))))))
      have Z651 : n0 ≤ T636.heap.size := Nat.le_trans Z625 K636q.1
      have K652 : Keep h0 T636.heap [] := K626.trans K636q (allS (Or.inr sz_b178) (allS (Or.inr sz_b202_0) (allS (Or.inr sz_b202_1) (allS (Or.inr sz_b202_2) (allS (Or.inr sz_b202_5) (allS (Or.inr sz_b202_3) all0))))))
      obtain ⟨v88, hv88⟩ : ∃ z : Nat → Int64, z = (own_up v23 ((v83 0).toNatClampNeg) v4) := ⟨_, rfl⟩
      have F636_10n : own_AJ Z T636.heap b202_0 .long 16 v88 := by rw [hv88]; exact F636_10
      obtain ⟨v89, hv89⟩ : ∃ z : Nat → Int64, z = (own_up v24 ((v83 0).toNatClampNeg) (3 : Int64)) := ⟨_, rfl⟩
      have F636_11n : own_AJ Z T636.heap b202_1 .long 16 v89 := by rw [hv89]; exact F636_11
      obtain ⟨v90, hv90⟩ : ∃ z : Nat → Int64, z = (own_up v25 ((v83 0).toNatClampNeg) (0 : Int64)) := ⟨_, rfl⟩
      have F636_12n : own_AJ Z T636.heap b202_2 .long 16 v90 := by rw [hv90]; exact F636_12
      obtain ⟨v91, hv91⟩ : ∃ z : Nat → Int32, z = (own_up v82 ((own_E (own_F4 ((v1.toInt32) &&& (31 : Int32)) ((v2.toInt32) &&& (31 : Int32)) ((v3.toInt32) &&& (31 : Int32)) v5) ((v4.toInt32) &&& (31 : Int32))).toNatClampNeg) (v83 0)) := ⟨_, rfl⟩
      have F636_13n : own_AI Z T636.heap b202_5 .int 32 v91 := by rw [hv91]; exact F636_13
      obtain ⟨v92, hv92⟩ : ∃ z : Nat → Int32, z = (own_up v81 ((v83 0).toNatClampNeg) ((v81 (v83 0).toNatClampNeg) + (1 : Int32))) := ⟨_, rfl⟩
      have F636_14n : own_AI Z T636.heap b202_3 .int 16 v92 := by rw [hv92]; exact F636_14
      have N636 := Fr.app N635 N636q
      obtain ⟨v93, hv93⟩ : ∃ z : Int32, z = (v83 0) := ⟨_, rfl⟩
      have hgo653 : ∀ t, Steps p.tables e below (T636.setTop (mkF m 363 #[.val (.long q0), .second, .val (.long q1), .second, .val (.long q2), .second, .val (.long q3), .second, .val (.int p4), .val (.ref b101), .val (.ref b111), .val (.ref b127), .val (.ref b149), .val (.int v5), .val (.int (2 : Int32)), .val (.ref b178), .val (.int (0 : Int32)), .val (.int (1 : Int32)), .val (.int (2 : Int32)), .val (.int (1 : Int32)), .val (.int v84), .val (.int v85), .val (.int (2 : Int32)), .val (.int v84), .val (.int v85), .val (.int (2 : Int32)), .val (.int v93), .val (.int v5)] [(.int (1 : Int32))])) t → Steps p.tables e below (T526.setTop (mkF m 207 #[.val (.long q0), .second, .val (.long q1), .second, .val (.long q2), .second, .val (.long q3), .second, .val (.int p4), .val (.ref b101), .val (.ref b111), .val (.ref b127), .val (.ref b149), .val (.int v5), .val (.int (2 : Int32)), .val (.ref b178), .val (.int (0 : Int32)), .val (.int (1 : Int32)), .val (.int (2 : Int32)), .unset, .unset, .unset, .unset, .unset, .unset, .unset, .unset, .unset] [])) t := by
        intro t kt
        show Steps p.tables e below (T526.setTop (mkF m 207 #[.val (.long q0), .second, .val (.long q1), .second, .val (.long q2), .second, .val (.long q3), .second, .val (.int p4), .val (.ref b101), .val (.ref b111), .val (.ref b127), .val (.ref b149), .val (.int v5), .val (.int (2 : Int32)), .val (.ref b178), .val (.int (0 : Int32)), .val (.int (1 : Int32)), .val (.int (2 : Int32)), .unset, .unset, .unset, .unset, .unset, .unset, .unset, .unset, .unset] [])) _
        refine XS.aload X526.here hx rfl (hb hby at_207) rfl rfl ?_
        refine XS.iload X526.here hx rfl (hb hby at_209) rfl ?_
        show Steps p.tables e below (T526.setTop (mkF m 211 #[.val (.long q0), .second, .val (.long q1), .second, .val (.long q2), .second, .val (.long q3), .second, .val (.int p4), .val (.ref b101), .val (.ref b111), .val (.ref b127), .val (.ref b149), .val (.int v5), .val (.int (2 : Int32)), .val (.ref b178), .val (.int (0 : Int32)), .val (.int (1 : Int32)), .val (.int (2 : Int32)), .unset, .unset, .unset, .unset, .unset, .unset, .unset, .unset, .unset] [(.int v5), (.ref b178)])) _
        refine st608.trans ?_
        show Steps p.tables e below (T608.setTop (mkF m 214 #[.val (.long q0), .second, .val (.long q1), .second, .val (.long q2), .second, .val (.long q3), .second, .val (.int p4), .val (.ref b101), .val (.ref b111), .val (.ref b127), .val (.ref b149), .val (.int v5), .val (.int (2 : Int32)), .val (.ref b178), .val (.int (0 : Int32)), .val (.int (1 : Int32)), .val (.int (2 : Int32)), .unset, .unset, .unset, .unset, .unset, .unset, .unset, .unset, .unset] [])) _
        refine XS.iload X608.here hx rfl (hb hby at_214) rfl ?_
        refine XS.iload X608.here hx rfl (hb hby at_216) rfl ?_
        refine XS.icmpNo X608.here hx rfl (hb hby at_218) rfl (feq (fun q => hs207_74 q.symm)).1 ?_
        show Steps p.tables e below (T608.setTop (mkF m 221 #[.val (.long q0), .second, .val (.long q1), .second, .val (.long q2), .second, .val (.long q3), .second, .val (.int p4), .val (.ref b101), .val (.ref b111), .val (.ref b127), .val (.ref b149), .val (.int v5), .val (.int (2 : Int32)), .val (.ref b178), .val (.int (0 : Int32)), .val (.int (1 : Int32)), .val (.int (2 : Int32)), .unset, .unset, .unset, .unset, .unset, .unset, .unset, .unset, .unset] [])) _
        refine XS.iconst X608.here hx rfl (hb hby at_221) ?_
        refine XS.goto X608.here hx rfl (pc0 := 222) (pc' := 226) rfl (hb hby at_222) (by decide) (by decide) ?_
        show Steps p.tables e below (T608.setTop (mkF m 226 #[.val (.long q0), .second, .val (.long q1), .second, .val (.long q2), .second, .val (.long q3), .second, .val (.int p4), .val (.ref b101), .val (.ref b111), .val (.ref b127), .val (.ref b149), .val (.int v5), .val (.int (2 : Int32)), .val (.ref b178), .val (.int (0 : Int32)), .val (.int (1 : Int32)), .val (.int (2 : Int32)), .unset, .unset, .unset, .unset, .unset, .unset, .unset, .unset, .unset] [(.int (1 : Int32))])) _
        refine XS.istore X608.here hx rfl (hb hby at_226) rfl (l' := #[.val (.long q0), .second, .val (.long q1), .second, .val (.long q2), .second, .val (.long q3), .second, .val (.int p4), .val (.ref b101), .val (.ref b111), .val (.ref b127), .val (.ref b149), .val (.int v5), .val (.int (2 : Int32)), .val (.ref b178), .val (.int (0 : Int32)), .val (.int (1 : Int32)), .val (.int (2 : Int32)), .val (.int (1 : Int32)), .unset, .unset, .unset, .unset, .unset, .unset, .unset, .unset]) rfl ?_
        show Steps p.tables e below (T608.setTop (mkF m 228 #[.val (.long q0), .second, .val (.long q1), .second, .val (.long q2), .second, .val (.long q3), .second, .val (.int p4), .val (.ref b101), .val (.ref b111), .val (.ref b127), .val (.ref b149), .val (.int v5), .val (.int (2 : Int32)), .val (.ref b178), .val (.int (0 : Int32)), .val (.int (1 : Int32)), .val (.int (2 : Int32)), .val (.int (1 : Int32)), .unset, .unset, .unset, .unset, .unset, .unset, .unset, .unset] [])) _
        refine XS.aload X608.here hx rfl (hb hby at_228) rfl rfl ?_
        refine XS.aload X608.here hx rfl (hb hby at_230) rfl rfl ?_
        show Steps p.tables e below (T608.setTop (mkF m 232 #[.val (.long q0), .second, .val (.long q1), .second, .val (.long q2), .second, .val (.long q3), .second, .val (.int p4), .val (.ref b101), .val (.ref b111), .val (.ref b127), .val (.ref b149), .val (.int v5), .val (.int (2 : Int32)), .val (.ref b178), .val (.int (0 : Int32)), .val (.int (1 : Int32)), .val (.int (2 : Int32)), .val (.int (1 : Int32)), .unset, .unset, .unset, .unset, .unset, .unset, .unset, .unset] [(.ref b101), (.ref b178)])) _
        refine st627.trans ?_
        show Steps p.tables e below (T627.setTop (mkF m 235 #[.val (.long q0), .second, .val (.long q1), .second, .val (.long q2), .second, .val (.long q3), .second, .val (.int p4), .val (.ref b101), .val (.ref b111), .val (.ref b127), .val (.ref b149), .val (.int v5), .val (.int (2 : Int32)), .val (.ref b178), .val (.int (0 : Int32)), .val (.int (1 : Int32)), .val (.int (2 : Int32)), .val (.int (1 : Int32)), .unset, .unset, .unset, .unset, .unset, .unset, .unset, .unset] [(.int (if v5 = (0 : Int32) then (-1 : Int32) else (0 : Int32)))])) _
        rw [← hv84]
        show Steps p.tables e below (T627.setTop (mkF m 235 #[.val (.long q0), .second, .val (.long q1), .second, .val (.long q2), .second, .val (.long q3), .second, .val (.int p4), .val (.ref b101), .val (.ref b111), .val (.ref b127), .val (.ref b149), .val (.int v5), .val (.int (2 : Int32)), .val (.ref b178), .val (.int (0 : Int32)), .val (.int (1 : Int32)), .val (.int (2 : Int32)), .val (.int (1 : Int32)), .unset, .unset, .unset, .unset, .unset, .unset, .unset, .unset] [(.int v84)])) _
        refine XS.istore X627.here hx rfl (hb hby at_235) rfl (l' := #[.val (.long q0), .second, .val (.long q1), .second, .val (.long q2), .second, .val (.long q3), .second, .val (.int p4), .val (.ref b101), .val (.ref b111), .val (.ref b127), .val (.ref b149), .val (.int v5), .val (.int (2 : Int32)), .val (.ref b178), .val (.int (0 : Int32)), .val (.int (1 : Int32)), .val (.int (2 : Int32)), .val (.int (1 : Int32)), .val (.int v84), .unset, .unset, .unset, .unset, .unset, .unset, .unset]) rfl ?_
        show Steps p.tables e below (T627.setTop (mkF m 237 #[.val (.long q0), .second, .val (.long q1), .second, .val (.long q2), .second, .val (.long q3), .second, .val (.int p4), .val (.ref b101), .val (.ref b111), .val (.ref b127), .val (.ref b149), .val (.int v5), .val (.int (2 : Int32)), .val (.ref b178), .val (.int (0 : Int32)), .val (.int (1 : Int32)), .val (.int (2 : Int32)), .val (.int (1 : Int32)), .val (.int v84), .unset, .unset, .unset, .unset, .unset, .unset, .unset] [])) _
        refine XS.aload X627.here hx rfl (hb hby at_237) rfl rfl ?_
        refine XS.aload X627.here hx rfl (hb hby at_239) rfl rfl ?_
        show Steps p.tables e below (T627.setTop (mkF m 241 #[.val (.long q0), .second, .val (.long q1), .second, .val (.long q2), .second, .val (.long q3), .second, .val (.int p4), .val (.ref b101), .val (.ref b111), .val (.ref b127), .val (.ref b149), .val (.int v5), .val (.int (2 : Int32)), .val (.ref b178), .val (.int (0 : Int32)), .val (.int (1 : Int32)), .val (.int (2 : Int32)), .val (.int (1 : Int32)), .val (.int v84), .unset, .unset, .unset, .unset, .unset, .unset, .unset] [(.ref b111), (.ref b178)])) _
        refine st628.trans ?_
        show Steps p.tables e below (T628.setTop (mkF m 244 #[.val (.long q0), .second, .val (.long q1), .second, .val (.long q2), .second, .val (.long q3), .second, .val (.int p4), .val (.ref b101), .val (.ref b111), .val (.ref b127), .val (.ref b149), .val (.int v5), .val (.int (2 : Int32)), .val (.ref b178), .val (.int (0 : Int32)), .val (.int (1 : Int32)), .val (.int (2 : Int32)), .val (.int (1 : Int32)), .val (.int v84), .unset, .unset, .unset, .unset, .unset, .unset, .unset] [(.int (if v5 = (1 : Int32) then (-1 : Int32) else (1 : Int32)))])) _
        rw [← hv85]
        show Steps p.tables e below (T628.setTop (mkF m 244 #[.val (.long q0), .second, .val (.long q1), .second, .val (.long q2), .second, .val (.long q3), .second, .val (.int p4), .val (.ref b101), .val (.ref b111), .val (.ref b127), .val (.ref b149), .val (.int v5), .val (.int (2 : Int32)), .val (.ref b178), .val (.int (0 : Int32)), .val (.int (1 : Int32)), .val (.int (2 : Int32)), .val (.int (1 : Int32)), .val (.int v84), .unset, .unset, .unset, .unset, .unset, .unset, .unset] [(.int v85)])) _
        refine XS.istore X628.here hx rfl (hb hby at_244) rfl (l' := #[.val (.long q0), .second, .val (.long q1), .second, .val (.long q2), .second, .val (.long q3), .second, .val (.int p4), .val (.ref b101), .val (.ref b111), .val (.ref b127), .val (.ref b149), .val (.int v5), .val (.int (2 : Int32)), .val (.ref b178), .val (.int (0 : Int32)), .val (.int (1 : Int32)), .val (.int (2 : Int32)), .val (.int (1 : Int32)), .val (.int v84), .val (.int v85), .unset, .unset, .unset, .unset, .unset, .unset]) rfl ?_
        show Steps p.tables e below (T628.setTop (mkF m 246 #[.val (.long q0), .second, .val (.long q1), .second, .val (.long q2), .second, .val (.long q3), .second, .val (.int p4), .val (.ref b101), .val (.ref b111), .val (.ref b127), .val (.ref b149), .val (.int v5), .val (.int (2 : Int32)), .val (.ref b178), .val (.int (0 : Int32)), .val (.int (1 : Int32)), .val (.int (2 : Int32)), .val (.int (1 : Int32)), .val (.int v84), .val (.int v85), .unset, .unset, .unset, .unset, .unset, .unset] [])) _
        refine XS.aload X628.here hx rfl (hb hby at_246) rfl rfl ?_
        refine XS.aload X628.here hx rfl (hb hby at_248) rfl rfl ?_
        show Steps p.tables e below (T628.setTop (mkF m 250 #[.val (.long q0), .second, .val (.long q1), .second, .val (.long q2), .second, .val (.long q3), .second, .val (.int p4), .val (.ref b101), .val (.ref b111), .val (.ref b127), .val (.ref b149), .val (.int v5), .val (.int (2 : Int32)), .val (.ref b178), .val (.int (0 : Int32)), .val (.int (1 : Int32)), .val (.int (2 : Int32)), .val (.int (1 : Int32)), .val (.int v84), .val (.int v85), .unset, .unset, .unset, .unset, .unset, .unset] [(.ref b127), (.ref b178)])) _
        refine st629.trans ?_
        show Steps p.tables e below (T629.setTop (mkF m 253 #[.val (.long q0), .second, .val (.long q1), .second, .val (.long q2), .second, .val (.long q3), .second, .val (.int p4), .val (.ref b101), .val (.ref b111), .val (.ref b127), .val (.ref b149), .val (.int v5), .val (.int (2 : Int32)), .val (.ref b178), .val (.int (0 : Int32)), .val (.int (1 : Int32)), .val (.int (2 : Int32)), .val (.int (1 : Int32)), .val (.int v84), .val (.int v85), .unset, .unset, .unset, .unset, .unset, .unset] [(.int (2 : Int32))])) _
        refine XS.istore X629.here hx rfl (hb hby at_253) rfl (l' := #[.val (.long q0), .second, .val (.long q1), .second, .val (.long q2), .second, .val (.long q3), .second, .val (.int p4), .val (.ref b101), .val (.ref b111), .val (.ref b127), .val (.ref b149), .val (.int v5), .val (.int (2 : Int32)), .val (.ref b178), .val (.int (0 : Int32)), .val (.int (1 : Int32)), .val (.int (2 : Int32)), .val (.int (1 : Int32)), .val (.int v84), .val (.int v85), .val (.int (2 : Int32)), .unset, .unset, .unset, .unset, .unset]) rfl ?_
        show Steps p.tables e below (T629.setTop (mkF m 255 #[.val (.long q0), .second, .val (.long q1), .second, .val (.long q2), .second, .val (.long q3), .second, .val (.int p4), .val (.ref b101), .val (.ref b111), .val (.ref b127), .val (.ref b149), .val (.int v5), .val (.int (2 : Int32)), .val (.ref b178), .val (.int (0 : Int32)), .val (.int (1 : Int32)), .val (.int (2 : Int32)), .val (.int (1 : Int32)), .val (.int v84), .val (.int v85), .val (.int (2 : Int32)), .unset, .unset, .unset, .unset, .unset] [])) _
        refine XS.iload X629.here hx rfl (hb hby at_255) rfl ?_
        refine XS.ifNo X629.here hx rfl (hb hby at_257) rfl ((if0 _ _).trans (feq (by decide : ¬ ((1 : Int32) = (0 : Int32)))).1) ?_
        show Steps p.tables e below (T629.setTop (mkF m 260 #[.val (.long q0), .second, .val (.long q1), .second, .val (.long q2), .second, .val (.long q3), .second, .val (.int p4), .val (.ref b101), .val (.ref b111), .val (.ref b127), .val (.ref b149), .val (.int v5), .val (.int (2 : Int32)), .val (.ref b178), .val (.int (0 : Int32)), .val (.int (1 : Int32)), .val (.int (2 : Int32)), .val (.int (1 : Int32)), .val (.int v84), .val (.int v85), .val (.int (2 : Int32)), .unset, .unset, .unset, .unset, .unset] [])) _
        refine XS.iload X629.here hx rfl (hb hby at_260) rfl ?_
        show Steps p.tables e below (T629.setTop (mkF m 262 #[.val (.long q0), .second, .val (.long q1), .second, .val (.long q2), .second, .val (.long q3), .second, .val (.int p4), .val (.ref b101), .val (.ref b111), .val (.ref b127), .val (.ref b149), .val (.int v5), .val (.int (2 : Int32)), .val (.ref b178), .val (.int (0 : Int32)), .val (.int (1 : Int32)), .val (.int (2 : Int32)), .val (.int (1 : Int32)), .val (.int v84), .val (.int v85), .val (.int (2 : Int32)), .unset, .unset, .unset, .unset, .unset] [(.int v5)])) _
        refine st632 _ ?_
        show Steps p.tables e below (T632.setTop (mkF m 270 #[.val (.long q0), .second, .val (.long q1), .second, .val (.long q2), .second, .val (.long q3), .second, .val (.int p4), .val (.ref b101), .val (.ref b111), .val (.ref b127), .val (.ref b149), .val (.int v5), .val (.int (2 : Int32)), .val (.ref b178), .val (.int (0 : Int32)), .val (.int (1 : Int32)), .val (.int (2 : Int32)), .val (.int (1 : Int32)), .val (.int v84), .val (.int v85), .val (.int (2 : Int32)), .unset, .unset, .unset, .unset, .unset] [(.int v84)])) _
        refine XS.istore X632.here hx rfl (hb hby at_270) rfl (l' := #[.val (.long q0), .second, .val (.long q1), .second, .val (.long q2), .second, .val (.long q3), .second, .val (.int p4), .val (.ref b101), .val (.ref b111), .val (.ref b127), .val (.ref b149), .val (.int v5), .val (.int (2 : Int32)), .val (.ref b178), .val (.int (0 : Int32)), .val (.int (1 : Int32)), .val (.int (2 : Int32)), .val (.int (1 : Int32)), .val (.int v84), .val (.int v85), .val (.int (2 : Int32)), .val (.int v84), .unset, .unset, .unset, .unset]) rfl ?_
        show Steps p.tables e below (T632.setTop (mkF m 272 #[.val (.long q0), .second, .val (.long q1), .second, .val (.long q2), .second, .val (.long q3), .second, .val (.int p4), .val (.ref b101), .val (.ref b111), .val (.ref b127), .val (.ref b149), .val (.int v5), .val (.int (2 : Int32)), .val (.ref b178), .val (.int (0 : Int32)), .val (.int (1 : Int32)), .val (.int (2 : Int32)), .val (.int (1 : Int32)), .val (.int v84), .val (.int v85), .val (.int (2 : Int32)), .val (.int v84), .unset, .unset, .unset, .unset] [])) _
        refine XS.iload X632.here hx rfl (hb hby at_272) rfl ?_
        refine XS.ifNo X632.here hx rfl (hb hby at_274) rfl ((if0 _ _).trans (feq (by decide : ¬ ((1 : Int32) = (0 : Int32)))).1) ?_
        show Steps p.tables e below (T632.setTop (mkF m 277 #[.val (.long q0), .second, .val (.long q1), .second, .val (.long q2), .second, .val (.long q3), .second, .val (.int p4), .val (.ref b101), .val (.ref b111), .val (.ref b127), .val (.ref b149), .val (.int v5), .val (.int (2 : Int32)), .val (.ref b178), .val (.int (0 : Int32)), .val (.int (1 : Int32)), .val (.int (2 : Int32)), .val (.int (1 : Int32)), .val (.int v84), .val (.int v85), .val (.int (2 : Int32)), .val (.int v84), .unset, .unset, .unset, .unset] [])) _
        refine XS.iload X632.here hx rfl (hb hby at_277) rfl ?_
        refine XS.iconst X632.here hx rfl (hb hby at_279) ?_
        show Steps p.tables e below (T632.setTop (mkF m 280 #[.val (.long q0), .second, .val (.long q1), .second, .val (.long q2), .second, .val (.long q3), .second, .val (.int p4), .val (.ref b101), .val (.ref b111), .val (.ref b127), .val (.ref b149), .val (.int v5), .val (.int (2 : Int32)), .val (.ref b178), .val (.int (0 : Int32)), .val (.int (1 : Int32)), .val (.int (2 : Int32)), .val (.int (1 : Int32)), .val (.int v84), .val (.int v85), .val (.int (2 : Int32)), .val (.int v84), .unset, .unset, .unset, .unset] [(.int (1 : Int32)), (.int v5)])) _
        refine st635 _ ?_
        show Steps p.tables e below (T635.setTop (mkF m 288 #[.val (.long q0), .second, .val (.long q1), .second, .val (.long q2), .second, .val (.long q3), .second, .val (.int p4), .val (.ref b101), .val (.ref b111), .val (.ref b127), .val (.ref b149), .val (.int v5), .val (.int (2 : Int32)), .val (.ref b178), .val (.int (0 : Int32)), .val (.int (1 : Int32)), .val (.int (2 : Int32)), .val (.int (1 : Int32)), .val (.int v84), .val (.int v85), .val (.int (2 : Int32)), .val (.int v84), .unset, .unset, .unset, .unset] [(.int v85)])) _
        refine XS.istore X635.here hx rfl (hb hby at_288) rfl (l' := #[.val (.long q0), .second, .val (.long q1), .second, .val (.long q2), .second, .val (.long q3), .second, .val (.int p4), .val (.ref b101), .val (.ref b111), .val (.ref b127), .val (.ref b149), .val (.int v5), .val (.int (2 : Int32)), .val (.ref b178), .val (.int (0 : Int32)), .val (.int (1 : Int32)), .val (.int (2 : Int32)), .val (.int (1 : Int32)), .val (.int v84), .val (.int v85), .val (.int (2 : Int32)), .val (.int v84), .val (.int v85), .unset, .unset, .unset]) rfl ?_
        show Steps p.tables e below (T635.setTop (mkF m 290 #[.val (.long q0), .second, .val (.long q1), .second, .val (.long q2), .second, .val (.long q3), .second, .val (.int p4), .val (.ref b101), .val (.ref b111), .val (.ref b127), .val (.ref b149), .val (.int v5), .val (.int (2 : Int32)), .val (.ref b178), .val (.int (0 : Int32)), .val (.int (1 : Int32)), .val (.int (2 : Int32)), .val (.int (1 : Int32)), .val (.int v84), .val (.int v85), .val (.int (2 : Int32)), .val (.int v84), .val (.int v85), .unset, .unset, .unset] [])) _
        refine XS.iload X635.here hx rfl (hb hby at_290) rfl ?_
        refine XS.ifNo X635.here hx rfl (hb hby at_292) rfl ((if0 _ _).trans (feq (by decide : ¬ ((1 : Int32) = (0 : Int32)))).1) ?_
        show Steps p.tables e below (T635.setTop (mkF m 295 #[.val (.long q0), .second, .val (.long q1), .second, .val (.long q2), .second, .val (.long q3), .second, .val (.int p4), .val (.ref b101), .val (.ref b111), .val (.ref b127), .val (.ref b149), .val (.int v5), .val (.int (2 : Int32)), .val (.ref b178), .val (.int (0 : Int32)), .val (.int (1 : Int32)), .val (.int (2 : Int32)), .val (.int (1 : Int32)), .val (.int v84), .val (.int v85), .val (.int (2 : Int32)), .val (.int v84), .val (.int v85), .unset, .unset, .unset] [])) _
        refine XS.iload X635.here hx rfl (hb hby at_295) rfl ?_
        refine XS.iconst X635.here hx rfl (hb hby at_297) ?_
        refine XS.icmpYes X635.here hx rfl (pc0 := 298) (pc' := 305) rfl (hb hby at_298) rfl (feq hs207_74).2 (by decide) (by decide) ?_
        show Steps p.tables e below (T635.setTop (mkF m 305 #[.val (.long q0), .second, .val (.long q1), .second, .val (.long q2), .second, .val (.long q3), .second, .val (.int p4), .val (.ref b101), .val (.ref b111), .val (.ref b127), .val (.ref b149), .val (.int v5), .val (.int (2 : Int32)), .val (.ref b178), .val (.int (0 : Int32)), .val (.int (1 : Int32)), .val (.int (2 : Int32)), .val (.int (1 : Int32)), .val (.int v84), .val (.int v85), .val (.int (2 : Int32)), .val (.int v84), .val (.int v85), .unset, .unset, .unset] [])) _
        refine XS.iconst X635.here hx rfl (hb hby at_305) ?_
        refine XS.istore X635.here hx rfl (hb hby at_306) rfl (l' := #[.val (.long q0), .second, .val (.long q1), .second, .val (.long q2), .second, .val (.long q3), .second, .val (.int p4), .val (.ref b101), .val (.ref b111), .val (.ref b127), .val (.ref b149), .val (.int v5), .val (.int (2 : Int32)), .val (.ref b178), .val (.int (0 : Int32)), .val (.int (1 : Int32)), .val (.int (2 : Int32)), .val (.int (1 : Int32)), .val (.int v84), .val (.int v85), .val (.int (2 : Int32)), .val (.int v84), .val (.int v85), .val (.int (2 : Int32)), .unset, .unset]) rfl ?_
        show Steps p.tables e below (T635.setTop (mkF m 308 #[.val (.long q0), .second, .val (.long q1), .second, .val (.long q2), .second, .val (.long q3), .second, .val (.int p4), .val (.ref b101), .val (.ref b111), .val (.ref b127), .val (.ref b149), .val (.int v5), .val (.int (2 : Int32)), .val (.ref b178), .val (.int (0 : Int32)), .val (.int (1 : Int32)), .val (.int (2 : Int32)), .val (.int (1 : Int32)), .val (.int v84), .val (.int v85), .val (.int (2 : Int32)), .val (.int v84), .val (.int v85), .val (.int (2 : Int32)), .unset, .unset] [])) _
        refine XS.aload X635.here hx rfl (hb hby at_308) rfl rfl ?_
        refine XS.aload X635.here hx rfl (hb hby at_310) rfl rfl ?_
        show Steps p.tables e below (T635.setTop (mkF m 312 #[.val (.long q0), .second, .val (.long q1), .second, .val (.long q2), .second, .val (.long q3), .second, .val (.int p4), .val (.ref b101), .val (.ref b111), .val (.ref b127), .val (.ref b149), .val (.int v5), .val (.int (2 : Int32)), .val (.ref b178), .val (.int (0 : Int32)), .val (.int (1 : Int32)), .val (.int (2 : Int32)), .val (.int (1 : Int32)), .val (.int v84), .val (.int v85), .val (.int (2 : Int32)), .val (.int v84), .val (.int v85), .val (.int (2 : Int32)), .unset, .unset] [(.ref b149), (.ref b178)])) _
        refine st636.trans ?_
        show Steps p.tables e below (T636.setTop (mkF m 315 #[.val (.long q0), .second, .val (.long q1), .second, .val (.long q2), .second, .val (.long q3), .second, .val (.int p4), .val (.ref b101), .val (.ref b111), .val (.ref b127), .val (.ref b149), .val (.int v5), .val (.int (2 : Int32)), .val (.ref b178), .val (.int (0 : Int32)), .val (.int (1 : Int32)), .val (.int (2 : Int32)), .val (.int (1 : Int32)), .val (.int v84), .val (.int v85), .val (.int (2 : Int32)), .val (.int v84), .val (.int v85), .val (.int (2 : Int32)), .unset, .unset] [(.int (v83 0))])) _
        rw [← hv93]
        show Steps p.tables e below (T636.setTop (mkF m 315 #[.val (.long q0), .second, .val (.long q1), .second, .val (.long q2), .second, .val (.long q3), .second, .val (.int p4), .val (.ref b101), .val (.ref b111), .val (.ref b127), .val (.ref b149), .val (.int v5), .val (.int (2 : Int32)), .val (.ref b178), .val (.int (0 : Int32)), .val (.int (1 : Int32)), .val (.int (2 : Int32)), .val (.int (1 : Int32)), .val (.int v84), .val (.int v85), .val (.int (2 : Int32)), .val (.int v84), .val (.int v85), .val (.int (2 : Int32)), .unset, .unset] [(.int v93)])) _
        refine XS.istore X636.here hx rfl (hb hby at_315) rfl (l' := #[.val (.long q0), .second, .val (.long q1), .second, .val (.long q2), .second, .val (.long q3), .second, .val (.int p4), .val (.ref b101), .val (.ref b111), .val (.ref b127), .val (.ref b149), .val (.int v5), .val (.int (2 : Int32)), .val (.ref b178), .val (.int (0 : Int32)), .val (.int (1 : Int32)), .val (.int (2 : Int32)), .val (.int (1 : Int32)), .val (.int v84), .val (.int v85), .val (.int (2 : Int32)), .val (.int v84), .val (.int v85), .val (.int (2 : Int32)), .val (.int v93), .unset]) rfl ?_
        show Steps p.tables e below (T636.setTop (mkF m 317 #[.val (.long q0), .second, .val (.long q1), .second, .val (.long q2), .second, .val (.long q3), .second, .val (.int p4), .val (.ref b101), .val (.ref b111), .val (.ref b127), .val (.ref b149), .val (.int v5), .val (.int (2 : Int32)), .val (.ref b178), .val (.int (0 : Int32)), .val (.int (1 : Int32)), .val (.int (2 : Int32)), .val (.int (1 : Int32)), .val (.int v84), .val (.int v85), .val (.int (2 : Int32)), .val (.int v84), .val (.int v85), .val (.int (2 : Int32)), .val (.int v93), .unset] [])) _
        refine XS.iload X636.here hx rfl (hb hby at_317) rfl ?_
        refine XS.ifNo X636.here hx rfl (hb hby at_319) rfl ((if0 _ _).trans (feq (by decide : ¬ ((1 : Int32) = (0 : Int32)))).1) ?_
        show Steps p.tables e below (T636.setTop (mkF m 322 #[.val (.long q0), .second, .val (.long q1), .second, .val (.long q2), .second, .val (.long q3), .second, .val (.int p4), .val (.ref b101), .val (.ref b111), .val (.ref b127), .val (.ref b149), .val (.int v5), .val (.int (2 : Int32)), .val (.ref b178), .val (.int (0 : Int32)), .val (.int (1 : Int32)), .val (.int (2 : Int32)), .val (.int (1 : Int32)), .val (.int v84), .val (.int v85), .val (.int (2 : Int32)), .val (.int v84), .val (.int v85), .val (.int (2 : Int32)), .val (.int v93), .unset] [])) _
        refine XS.iload X636.here hx rfl (hb hby at_322) rfl ?_
        refine XS.goto X636.here hx rfl (pc0 := 324) (pc' := 328) rfl (hb hby at_324) (by decide) (by decide) ?_
        show Steps p.tables e below (T636.setTop (mkF m 328 #[.val (.long q0), .second, .val (.long q1), .second, .val (.long q2), .second, .val (.long q3), .second, .val (.int p4), .val (.ref b101), .val (.ref b111), .val (.ref b127), .val (.ref b149), .val (.int v5), .val (.int (2 : Int32)), .val (.ref b178), .val (.int (0 : Int32)), .val (.int (1 : Int32)), .val (.int (2 : Int32)), .val (.int (1 : Int32)), .val (.int v84), .val (.int v85), .val (.int (2 : Int32)), .val (.int v84), .val (.int v85), .val (.int (2 : Int32)), .val (.int v93), .unset] [(.int v5)])) _
        refine XS.istore X636.here hx rfl (hb hby at_328) rfl (l' := #[.val (.long q0), .second, .val (.long q1), .second, .val (.long q2), .second, .val (.long q3), .second, .val (.int p4), .val (.ref b101), .val (.ref b111), .val (.ref b127), .val (.ref b149), .val (.int v5), .val (.int (2 : Int32)), .val (.ref b178), .val (.int (0 : Int32)), .val (.int (1 : Int32)), .val (.int (2 : Int32)), .val (.int (1 : Int32)), .val (.int v84), .val (.int v85), .val (.int (2 : Int32)), .val (.int v84), .val (.int v85), .val (.int (2 : Int32)), .val (.int v93), .val (.int v5)]) rfl ?_
        show Steps p.tables e below (T636.setTop (mkF m 330 #[.val (.long q0), .second, .val (.long q1), .second, .val (.long q2), .second, .val (.long q3), .second, .val (.int p4), .val (.ref b101), .val (.ref b111), .val (.ref b127), .val (.ref b149), .val (.int v5), .val (.int (2 : Int32)), .val (.ref b178), .val (.int (0 : Int32)), .val (.int (1 : Int32)), .val (.int (2 : Int32)), .val (.int (1 : Int32)), .val (.int v84), .val (.int v85), .val (.int (2 : Int32)), .val (.int v84), .val (.int v85), .val (.int (2 : Int32)), .val (.int v93), .val (.int v5)] [])) _
        refine XS.iload X636.here hx rfl (hb hby at_330) rfl ?_
        refine XS.iload X636.here hx rfl (hb hby at_332) rfl ?_
        refine XS.icmpNo X636.here hx rfl (hb hby at_334) rfl (teq (rfl : v84 = v84)).2 ?_
        show Steps p.tables e below (T636.setTop (mkF m 337 #[.val (.long q0), .second, .val (.long q1), .second, .val (.long q2), .second, .val (.long q3), .second, .val (.int p4), .val (.ref b101), .val (.ref b111), .val (.ref b127), .val (.ref b149), .val (.int v5), .val (.int (2 : Int32)), .val (.ref b178), .val (.int (0 : Int32)), .val (.int (1 : Int32)), .val (.int (2 : Int32)), .val (.int (1 : Int32)), .val (.int v84), .val (.int v85), .val (.int (2 : Int32)), .val (.int v84), .val (.int v85), .val (.int (2 : Int32)), .val (.int v93), .val (.int v5)] [])) _
        refine XS.iload X636.here hx rfl (hb hby at_337) rfl ?_
        refine XS.iload X636.here hx rfl (hb hby at_339) rfl ?_
        refine XS.icmpNo X636.here hx rfl (hb hby at_341) rfl (teq (rfl : v85 = v85)).2 ?_
        show Steps p.tables e below (T636.setTop (mkF m 344 #[.val (.long q0), .second, .val (.long q1), .second, .val (.long q2), .second, .val (.long q3), .second, .val (.int p4), .val (.ref b101), .val (.ref b111), .val (.ref b127), .val (.ref b149), .val (.int v5), .val (.int (2 : Int32)), .val (.ref b178), .val (.int (0 : Int32)), .val (.int (1 : Int32)), .val (.int (2 : Int32)), .val (.int (1 : Int32)), .val (.int v84), .val (.int v85), .val (.int (2 : Int32)), .val (.int v84), .val (.int v85), .val (.int (2 : Int32)), .val (.int v93), .val (.int v5)] [])) _
        refine XS.iload X636.here hx rfl (hb hby at_344) rfl ?_
        refine XS.iload X636.here hx rfl (hb hby at_346) rfl ?_
        refine XS.icmpNo X636.here hx rfl (hb hby at_348) rfl (teq (by decide : (2 : Int32) = (2 : Int32))).2 ?_
        show Steps p.tables e below (T636.setTop (mkF m 351 #[.val (.long q0), .second, .val (.long q1), .second, .val (.long q2), .second, .val (.long q3), .second, .val (.int p4), .val (.ref b101), .val (.ref b111), .val (.ref b127), .val (.ref b149), .val (.int v5), .val (.int (2 : Int32)), .val (.ref b178), .val (.int (0 : Int32)), .val (.int (1 : Int32)), .val (.int (2 : Int32)), .val (.int (1 : Int32)), .val (.int v84), .val (.int v85), .val (.int (2 : Int32)), .val (.int v84), .val (.int v85), .val (.int (2 : Int32)), .val (.int v93), .val (.int v5)] [])) _
        refine XS.iload X636.here hx rfl (hb hby at_351) rfl ?_
        refine XS.iload X636.here hx rfl (hb hby at_353) rfl ?_
        refine XS.icmpNo X636.here hx rfl (hb hby at_355) rfl (teq (by rw [hv93, hv83]; rfl)).2 ?_
        show Steps p.tables e below (T636.setTop (mkF m 358 #[.val (.long q0), .second, .val (.long q1), .second, .val (.long q2), .second, .val (.long q3), .second, .val (.int p4), .val (.ref b101), .val (.ref b111), .val (.ref b127), .val (.ref b149), .val (.int v5), .val (.int (2 : Int32)), .val (.ref b178), .val (.int (0 : Int32)), .val (.int (1 : Int32)), .val (.int (2 : Int32)), .val (.int (1 : Int32)), .val (.int v84), .val (.int v85), .val (.int (2 : Int32)), .val (.int v84), .val (.int v85), .val (.int (2 : Int32)), .val (.int v93), .val (.int v5)] [])) _
        refine XS.iconst X636.here hx rfl (hb hby at_358) ?_
        refine XS.goto X636.here hx rfl (pc0 := 359) (pc' := 363) rfl (hb hby at_359) (by decide) (by decide) ?_
        exact kt
      refine own_go hgo653 ?_
      exact own_retZ X636 hx Bd.returns Bd.notSynchronized (hb hby at_363) (by decide) (by decide) (Or.inr (rfl : (1 : Int32) = 1)) ⟨by rw [(rfl : (1 : Int32) = 1)], N636⟩
  · have hs172_94 : v6 = (3 : Int32) := own_x4 hv6 hs172_28 hs172_50 hs172_72
    obtain ⟨rl0, rl1, rl2⟩ := own_rlt hr3
    have HHr := HH3 _ rl0
    obtain ⟨ca, cb, ⟨ck0, ck1, ck2⟩, ck3, cz3⟩ := own_c1 (own_fin2 (a := t0) (b := t1) (c := t2) (d := t3) hr3)
    rw [← ht0, ← ht1, ← ht2] at ca cb ck0 ck1 ck2 ck3 cz3
    rw [← ht3] at ck3 cz3
    have V4 := own_rmsV cb own_V3 (own_and31 _)
    obtain ⟨cq654, kq654, q654a, q654b, q654c⟩ := isOf hZ (rfl : T252.heap = T252.heap) F252_0
    obtain ⟨_, _, ⟨T654, L654, k654, n654⟩, -, X654, ⟨Lc654, hQ654, l654, y654, z654⟩, st654⟩ := X252.virtualBack hx (y := (⟨"com/example/upper_falls/upperfalls/HeldKeys", "release", "(I)V"⟩ : MethodName)) (z := (⟨"com/example/upper_falls/upperfalls/HeldKeys", "release", "(I)V"⟩ : MethodName)) hown (mvT hZ (own_wd hw 103 rfl)) (mvT hZ (own_wd hw 104 rfl)) (notFace_of_selects (args := #[]) (mvT hZ (own_wd hw 106 rfl))) (mvT hZ (own_wd hw 106 rfl)) (mvT hZ (own_wd hw 105 rfl)) (by decide) (backOf (W := 0) (rmrl l Z a0 hw [] b178 v5 b202_0 b202_1 b202_2 b202_3 b202_4 b202_5 v23 v24 v25 v27 v11 v26 (3 : Int32) (own_RS ((v1.toInt32) &&& (31 : Int32)) ((v2.toInt32) &&& (31 : Int32)) ((v3.toInt32) &&& (31 : Int32)) v5) 3 (own_HM ((v1.toInt32) &&& (31 : Int32)) ((v2.toInt32) &&& (31 : Int32)) ((v3.toInt32) &&& (31 : Int32))) (own_F4 ((v1.toInt32) &&& (31 : Int32)) ((v2.toInt32) &&& (31 : Int32)) ((v3.toInt32) &&& (31 : Int32)) v5) (T252.heap) n0 Z267 F252_0 F252_1 F252_2 F252_3 F252_4 F252_5 F252_6 F252_7 F252_8f F252_9 F252_10n F252_11n F252_12n F252_14n F266 F252_13n (rl1 : (¬ v5 < 0 ∧ v5.toNatClampNeg < 16)) ((by rcases hr3 with q | q | q <;> first | (rw [q, hv27, hv22, hv17, hv10]; decide)) : ((v27 v5.toNatClampNeg) - (1 : Int32)) = (0 : Int32)) ((by rw [hF3]; exact own_V3) : own_V 3 v26) (by decide : 3 ≤ 3) (HH3 : own_HH 3 v23 (own_HM ((v1.toInt32) &&& (31 : Int32)) ((v2.toInt32) &&& (31 : Int32)) ((v3.toInt32) &&& (31 : Int32)))) ((by rw [hF3, HHr]; exact ca) : own_slt v26 v5 8 (((v23 v5.toNatClampNeg).toInt32) &&& (31 : Int32)) = some (own_RS ((v1.toInt32) &&& (31 : Int32)) ((v2.toInt32) &&& (31 : Int32)) ((v3.toInt32) &&& (31 : Int32)) v5)) ((by rw [hF3]; exact cb) : own_rms (own_HM ((v1.toInt32) &&& (31 : Int32)) ((v2.toInt32) &&& (31 : Int32)) ((v3.toInt32) &&& (31 : Int32))) 8 v26 (own_RS ((v1.toInt32) &&& (31 : Int32)) ((v2.toInt32) &&& (31 : Int32)) ((v3.toInt32) &&& (31 : Int32)) v5) (((own_RS ((v1.toInt32) &&& (31 : Int32)) ((v2.toInt32) &&& (31 : Int32)) ((v3.toInt32) &&& (31 : Int32)) v5) + (1 : Int32)) &&& (31 : Int32)) = some (own_F4 ((v1.toInt32) &&& (31 : Int32)) ((v2.toInt32) &&& (31 : Int32)) ((v3.toInt32) &&& (31 : Int32)) v5)) ne_b178_b202_3 F202_8 F202_12 F202_15 (Ne.symm F202_18) (Ne.symm F202_19) g_b202_3 g_b202_5 ne_b178_b202_5 F202_10 F202_14 F202_17 F202_20 F202_19 (Ne.symm ne_b178_b202_0) (Ne.symm ne_b178_b202_1) (Ne.symm ne_b178_b202_2) (Ne.symm ne_b178_b202_4) (Ne.symm ne_b178_b202_3) (Ne.symm ne_b178_b202_5) g_b178 ne_b178_b202_4 F202_9 F202_13 F202_16 F202_18 (Ne.symm F202_20) g_b202_4) hZ (own_wd hw 107 rfl) (own_wd hw 27 rfl) (by decide) (by decide)) q654a q654c (g := (mkF m 211 #[.val (.long q0), .second, .val (.long q1), .second, .val (.long q2), .second, .val (.long q3), .second, .val (.int p4), .val (.ref b101), .val (.ref b111), .val (.ref b127), .val (.ref b149), .val (.int v5), .val (.int (3 : Int32)), .val (.ref b178), .val (.int (0 : Int32)), .val (.int (1 : Int32)), .val (.int (2 : Int32)), .unset, .unset, .unset, .unset, .unset, .unset, .unset, .unset, .unset] [(.int v5), (.ref b178)])) rfl (by rw [hml]; rfl) (Steps.refl _) (argsL := [(.int v5)]) (rest := []) (lenOf pd14 rfl) rfl (by show 2 * 0 + _ ≤ _; exact Nat.le_of_eq rfl) (hb hby at_211) (fun _ _ => ⟨rfl, (rfl : T252.heap = T252.heap), (by decide : 11 + 0 ≤ _), (by decide : 129 + 0 ≤ _)⟩)
    dsimp only [Pt.U, Pt.locs, Pt.cells, Pt.slots] at X654 l654 y654 z654 st654 hQ654
    subst l654 y654 z654
    obtain ⟨rfl, N654q, K654q, F654_0, F654_1, F654_2, F654_3, F654_4, F654_5, F654_6, F654_7, F654_8, F654_9, F654_10, F654_11, F654_12⟩ := hQ654
    have F655 := F253.keep K654q
    have F656 := F254.keep K654q (ninS ne_b101_b202_3 (ninS ne_b101_b202_5 (ninS ne_b101_b178 (ninS ne_b101_b202_4 nin0))))
    have F657 := F255.keep K654q (ninS ne_b101_b202_3 (ninS ne_b101_b202_5 (ninS ne_b101_b178 (ninS ne_b101_b202_4 nin0))))
    have F658 := F256.keep K654q
    have F659 := F257.keep K654q (ninS ne_b111_b202_3 (ninS ne_b111_b202_5 (ninS ne_b111_b178 (ninS ne_b111_b202_4 nin0))))
    have F660 := F258.keep K654q (ninS ne_b111_b202_3 (ninS ne_b111_b202_5 (ninS ne_b111_b178 (ninS ne_b111_b202_4 nin0))))
    have F661 := F259.keep K654q
    have F662 := F260.keep K654q (ninS ne_b127_b202_3 (ninS ne_b127_b202_5 (ninS ne_b127_b178 (ninS ne_b127_b202_4 nin0))))
    have F663 := F261.keep K654q (ninS ne_b127_b202_3 (ninS ne_b127_b202_5 (ninS ne_b127_b178 (ninS ne_b127_b202_4 nin0))))
    have F664 := F262.keep K654q
    have F665 := F263.keep K654q (ninS ne_b149_b202_3 (ninS ne_b149_b202_5 (ninS ne_b149_b178 (ninS ne_b149_b202_4 nin0))))
    have F666 := F264.keep K654q (ninS ne_b149_b202_3 (ninS ne_b149_b202_5 (ninS ne_b149_b178 (ninS ne_b149_b202_4 nin0))))
    have F667 := F252_0.keep K654q
    have F668 := F252_10n.keep K654q (ninS F202_8 (ninS F202_10 (ninS (Ne.symm ne_b178_b202_0) (ninS F202_9 nin0))))
    have F669 := F252_11n.keep K654q (ninS F202_12 (ninS F202_14 (ninS (Ne.symm ne_b178_b202_1) (ninS F202_13 nin0))))
    have F670 := F252_12n.keep K654q (ninS F202_15 (ninS F202_17 (ninS (Ne.symm ne_b178_b202_2) (ninS F202_16 nin0))))
    have Z671 : n0 ≤ T654.heap.size := Nat.le_trans Z267 K654q.1
    have K672 : Keep h0 T654.heap [] := K268.trans K654q (allS (Or.inr sz_b202_3) (allS (Or.inr sz_b202_5) (allS (Or.inr sz_b178) (allS (Or.inr sz_b202_4) all0))))
    obtain ⟨v95, hv95⟩ : ∃ z : Nat → Int32, z = (own_up v27 (v5.toNatClampNeg) ((v27 v5.toNatClampNeg) - (1 : Int32))) := ⟨_, rfl⟩
    have F654_0n : own_AI Z T654.heap b202_3 .int 16 v95 := by rw [hv95]; exact F654_0
    obtain ⟨v96, hv96⟩ : ∃ z : Nat → Int32, z = (own_F4 ((v1.toInt32) &&& (31 : Int32)) ((v2.toInt32) &&& (31 : Int32)) ((v3.toInt32) &&& (31 : Int32)) v5) := ⟨_, rfl⟩
    have F654_1n : own_AI Z T654.heap b202_5 .int 32 v96 := by rw [hv96]; exact F654_1
    obtain ⟨v97, hv97⟩ : ∃ z : Nat → Int32, z = (own_up v11 0 v5) := ⟨_, rfl⟩
    have F654_12n : own_AI Z T654.heap b202_4 .int 16 v97 := by rw [hv97]; exact F654_12
    have N654 := Fr.app N252 N654q
    have hF4 : v96 = (own_F4 ((v1.toInt32) &&& (31 : Int32)) ((v2.toInt32) &&& (31 : Int32)) ((v3.toInt32) &&& (31 : Int32)) v5) := hv96
    obtain ⟨cq673, kq673, q673a, q673b, q673c⟩ := isOf hZ (rfl : T654.heap = T654.heap) F654_2
    obtain ⟨_, _, ⟨T673, L673, k673, n673⟩, -, X673, ⟨Lc673, hQ673, l673, y673, z673⟩, st673⟩ := X654.virtualBack hx (y := (⟨"com/example/upper_falls/upperfalls/HeldKeys", "find", "(Lcom/example/upper_falls/upperfalls/KeyHash;)I"⟩ : MethodName)) (z := (⟨"com/example/upper_falls/upperfalls/HeldKeys", "find", "(Lcom/example/upper_falls/upperfalls/KeyHash;)I"⟩ : MethodName)) hown (mvT hZ (own_wd hw 108 rfl)) (mvT hZ (own_wd hw 77 rfl)) (notFace_of_selects (args := #[]) (mvT hZ (own_wd hw 79 rfl))) (mvT hZ (own_wd hw 79 rfl)) (mvT hZ (own_wd hw 78 rfl)) (by decide) (backOf (W := 0) (rmfd l Z a0 hw [] b178 b101 b202_5 b202_0 b202_1 v96 v23 v24 v1 (0 : Int64) (0 : Int32) 3 (if v5 = (0 : Int32) then (-1 : Int32) else (0 : Int32)) (T654.heap) n0 Z671 F654_2 F654_8 F654_3 F654_4 F654_1n F668 F669 F655 F656 F657 ((by rw [hF4]; exact V4) : own_V 3 v96) ((own_Mk (t := 0) (by decide) (by decide) rfl rfl G3 (fun _ => P0)) : own_M 3 v23 v24 (0 : Int32) v1 (0 : Int64)) (by decide : 3 ≤ 3) ((by rw [hF4]; exact ck0) : own_fnd v96 (0 : Int32) 8 ((v1.toInt32) &&& (31 : Int32)) = some (if v5 = (0 : Int32) then (-1 : Int32) else (0 : Int32)))) hZ (own_wd hw 80 rfl) (own_wd hw 27 rfl) (by decide) (by decide)) q673a q673c (g := (mkF m 232 #[.val (.long q0), .second, .val (.long q1), .second, .val (.long q2), .second, .val (.long q3), .second, .val (.int p4), .val (.ref b101), .val (.ref b111), .val (.ref b127), .val (.ref b149), .val (.int v5), .val (.int (3 : Int32)), .val (.ref b178), .val (.int (0 : Int32)), .val (.int (1 : Int32)), .val (.int (2 : Int32)), .val (.int (1 : Int32)), .unset, .unset, .unset, .unset, .unset, .unset, .unset, .unset] [(.ref b101), (.ref b178)])) rfl (by rw [hml]; rfl) (Steps.refl _) (argsL := [(.ref b101)]) (rest := []) (lenOf pd13 rfl) rfl (by show 2 * 0 + _ ≤ _; exact Nat.le_of_eq rfl) (hb hby at_232) (fun _ _ => ⟨rfl, (rfl : T654.heap = T654.heap), (by decide : 11 + 0 ≤ _), (by decide : 129 + 0 ≤ _)⟩)
    dsimp only [Pt.U, Pt.locs, Pt.cells, Pt.slots] at X673 l673 y673 z673 st673 hQ673
    subst l673 y673 z673
    obtain ⟨rfl, N673q, e673⟩ := hQ673
    have N673 := Fr.app N654 N673q
    obtain ⟨v98, hv98⟩ : ∃ z : Int32, z = (if v5 = (0 : Int32) then (-1 : Int32) else (0 : Int32)) := ⟨_, rfl⟩
    obtain ⟨cq674, kq674, q674a, q674b, q674c⟩ := isOf hZ e673 F654_2
    obtain ⟨_, _, ⟨T674, L674, k674, n674⟩, -, X674, ⟨Lc674, hQ674, l674, y674, z674⟩, st674⟩ := X673.virtualBack hx (y := (⟨"com/example/upper_falls/upperfalls/HeldKeys", "find", "(Lcom/example/upper_falls/upperfalls/KeyHash;)I"⟩ : MethodName)) (z := (⟨"com/example/upper_falls/upperfalls/HeldKeys", "find", "(Lcom/example/upper_falls/upperfalls/KeyHash;)I"⟩ : MethodName)) hown (mvT hZ (own_wd hw 108 rfl)) (mvT hZ (own_wd hw 77 rfl)) (notFace_of_selects (args := #[]) (mvT hZ (own_wd hw 79 rfl))) (mvT hZ (own_wd hw 79 rfl)) (mvT hZ (own_wd hw 78 rfl)) (by decide) (backOf (W := 0) (rmfd l Z a0 hw [] b178 b111 b202_5 b202_0 b202_1 v96 v23 v24 v2 (1 : Int64) (1 : Int32) 3 (if v5 = (1 : Int32) then (-1 : Int32) else (1 : Int32)) (T654.heap) n0 Z671 F654_2 F654_8 F654_3 F654_4 F654_1n F668 F669 F658 F659 F660 ((by rw [hF4]; exact V4) : own_V 3 v96) ((own_Mk (t := 1) (by decide) (by decide) rfl rfl G3 (fun _ => P1)) : own_M 3 v23 v24 (1 : Int32) v2 (1 : Int64)) (by decide : 3 ≤ 3) ((by rw [hF4]; exact ck1) : own_fnd v96 (1 : Int32) 8 ((v2.toInt32) &&& (31 : Int32)) = some (if v5 = (1 : Int32) then (-1 : Int32) else (1 : Int32)))) hZ (own_wd hw 80 rfl) (own_wd hw 27 rfl) (by decide) (by decide)) q674a q674c (g := (mkF m 241 #[.val (.long q0), .second, .val (.long q1), .second, .val (.long q2), .second, .val (.long q3), .second, .val (.int p4), .val (.ref b101), .val (.ref b111), .val (.ref b127), .val (.ref b149), .val (.int v5), .val (.int (3 : Int32)), .val (.ref b178), .val (.int (0 : Int32)), .val (.int (1 : Int32)), .val (.int (2 : Int32)), .val (.int (1 : Int32)), .val (.int v98), .unset, .unset, .unset, .unset, .unset, .unset, .unset] [(.ref b111), (.ref b178)])) rfl (by rw [hml]; rfl) (Steps.refl _) (argsL := [(.ref b111)]) (rest := []) (lenOf pd13 rfl) rfl (by show 2 * 0 + _ ≤ _; exact Nat.le_of_eq rfl) (hb hby at_241) (fun _ _ => ⟨rfl, e673, (by decide : 11 + 0 ≤ _), (by decide : 129 + 0 ≤ _)⟩)
    dsimp only [Pt.U, Pt.locs, Pt.cells, Pt.slots] at X674 l674 y674 z674 st674 hQ674
    subst l674 y674 z674
    obtain ⟨rfl, N674q, e674⟩ := hQ674
    have N674 := Fr.app N673 N674q
    obtain ⟨v99, hv99⟩ : ∃ z : Int32, z = (if v5 = (1 : Int32) then (-1 : Int32) else (1 : Int32)) := ⟨_, rfl⟩
    obtain ⟨cq675, kq675, q675a, q675b, q675c⟩ := isOf hZ e674 F654_2
    obtain ⟨_, _, ⟨T675, L675, k675, n675⟩, -, X675, ⟨Lc675, hQ675, l675, y675, z675⟩, st675⟩ := X674.virtualBack hx (y := (⟨"com/example/upper_falls/upperfalls/HeldKeys", "find", "(Lcom/example/upper_falls/upperfalls/KeyHash;)I"⟩ : MethodName)) (z := (⟨"com/example/upper_falls/upperfalls/HeldKeys", "find", "(Lcom/example/upper_falls/upperfalls/KeyHash;)I"⟩ : MethodName)) hown (mvT hZ (own_wd hw 108 rfl)) (mvT hZ (own_wd hw 77 rfl)) (notFace_of_selects (args := #[]) (mvT hZ (own_wd hw 79 rfl))) (mvT hZ (own_wd hw 79 rfl)) (mvT hZ (own_wd hw 78 rfl)) (by decide) (backOf (W := 0) (rmfd l Z a0 hw [] b178 b127 b202_5 b202_0 b202_1 v96 v23 v24 v3 (2 : Int64) (2 : Int32) 3 (if v5 = (2 : Int32) then (-1 : Int32) else (2 : Int32)) (T654.heap) n0 Z671 F654_2 F654_8 F654_3 F654_4 F654_1n F668 F669 F661 F662 F663 ((by rw [hF4]; exact V4) : own_V 3 v96) ((own_Mk (t := 2) (by decide) (by decide) rfl rfl G3 (fun _ => P2)) : own_M 3 v23 v24 (2 : Int32) v3 (2 : Int64)) (by decide : 3 ≤ 3) ((by rw [hF4]; exact ck2) : own_fnd v96 (2 : Int32) 8 ((v3.toInt32) &&& (31 : Int32)) = some (if v5 = (2 : Int32) then (-1 : Int32) else (2 : Int32)))) hZ (own_wd hw 80 rfl) (own_wd hw 27 rfl) (by decide) (by decide)) q675a q675c (g := (mkF m 250 #[.val (.long q0), .second, .val (.long q1), .second, .val (.long q2), .second, .val (.long q3), .second, .val (.int p4), .val (.ref b101), .val (.ref b111), .val (.ref b127), .val (.ref b149), .val (.int v5), .val (.int (3 : Int32)), .val (.ref b178), .val (.int (0 : Int32)), .val (.int (1 : Int32)), .val (.int (2 : Int32)), .val (.int (1 : Int32)), .val (.int v98), .val (.int v99), .unset, .unset, .unset, .unset, .unset, .unset] [(.ref b127), (.ref b178)])) rfl (by rw [hml]; rfl) (Steps.refl _) (argsL := [(.ref b127)]) (rest := []) (lenOf pd13 rfl) rfl (by show 2 * 0 + _ ≤ _; exact Nat.le_of_eq rfl) (hb hby at_250) (fun _ _ => ⟨rfl, e674, (by decide : 11 + 0 ≤ _), (by decide : 129 + 0 ≤ _)⟩)
    dsimp only [Pt.U, Pt.locs, Pt.cells, Pt.slots] at X675 l675 y675 z675 st675 hQ675
    subst l675 y675 z675
    obtain ⟨rfl, N675q, e675⟩ := hQ675
    have N675 := Fr.app N674 N675q
    obtain ⟨v100, hv100⟩ : ∃ z : Int32, z = (if v5 = (2 : Int32) then (-1 : Int32) else (2 : Int32)) := ⟨_, rfl⟩
    obtain ⟨T678, lc678, X678, N678, e678, st678⟩ := own_mrg (n0 := n0) (h := T654.heap) (g := (mkF m 262 #[.val (.long q0), .second, .val (.long q1), .second, .val (.long q2), .second, .val (.long q3), .second, .val (.int p4), .val (.ref b101), .val (.ref b111), .val (.ref b127), .val (.ref b149), .val (.int v5), .val (.int (3 : Int32)), .val (.ref b178), .val (.int (0 : Int32)), .val (.int (1 : Int32)), .val (.int (2 : Int32)), .val (.int (1 : Int32)), .val (.int v98), .val (.int v99), .val (.int v100), .unset, .unset, .unset, .unset, .unset] [(.int v5)])) (g' := (mkF m 270 #[.val (.long q0), .second, .val (.long q1), .second, .val (.long q2), .second, .val (.long q3), .second, .val (.int p4), .val (.ref b101), .val (.ref b111), .val (.ref b127), .val (.ref b149), .val (.int v5), .val (.int (3 : Int32)), .val (.ref b178), .val (.int (0 : Int32)), .val (.int (1 : Int32)), .val (.int (2 : Int32)), .val (.int (1 : Int32)), .val (.int v98), .val (.int v99), .val (.int v100), .unset, .unset, .unset, .unset, .unset] [(.int v98)])) X675 (by
      by_cases hc262_101 : v5 = (0 : Int32)
      · have hgo676 : ∀ t, Steps p.tables e below (T675.setTop (mkF m 270 #[.val (.long q0), .second, .val (.long q1), .second, .val (.long q2), .second, .val (.long q3), .second, .val (.int p4), .val (.ref b101), .val (.ref b111), .val (.ref b127), .val (.ref b149), .val (.int v5), .val (.int (3 : Int32)), .val (.ref b178), .val (.int (0 : Int32)), .val (.int (1 : Int32)), .val (.int (2 : Int32)), .val (.int (1 : Int32)), .val (.int v98), .val (.int v99), .val (.int v100), .unset, .unset, .unset, .unset, .unset] [(.int (-1 : Int32))])) t → Steps p.tables e below (T675.setTop (mkF m 262 #[.val (.long q0), .second, .val (.long q1), .second, .val (.long q2), .second, .val (.long q3), .second, .val (.int p4), .val (.ref b101), .val (.ref b111), .val (.ref b127), .val (.ref b149), .val (.int v5), .val (.int (3 : Int32)), .val (.ref b178), .val (.int (0 : Int32)), .val (.int (1 : Int32)), .val (.int (2 : Int32)), .val (.int (1 : Int32)), .val (.int v98), .val (.int v99), .val (.int v100), .unset, .unset, .unset, .unset, .unset] [(.int v5)])) t := by
          intro t kt
          show Steps p.tables e below (T675.setTop (mkF m 262 #[.val (.long q0), .second, .val (.long q1), .second, .val (.long q2), .second, .val (.long q3), .second, .val (.int p4), .val (.ref b101), .val (.ref b111), .val (.ref b127), .val (.ref b149), .val (.int v5), .val (.int (3 : Int32)), .val (.ref b178), .val (.int (0 : Int32)), .val (.int (1 : Int32)), .val (.int (2 : Int32)), .val (.int (1 : Int32)), .val (.int v98), .val (.int v99), .val (.int v100), .unset, .unset, .unset, .unset, .unset] [(.int v5)])) _
          refine XS.ifNo X675.here hx rfl (hb hby at_262) rfl ((if0 _ _).trans (teq hc262_101).2) ?_
          show Steps p.tables e below (T675.setTop (mkF m 265 #[.val (.long q0), .second, .val (.long q1), .second, .val (.long q2), .second, .val (.long q3), .second, .val (.int p4), .val (.ref b101), .val (.ref b111), .val (.ref b127), .val (.ref b149), .val (.int v5), .val (.int (3 : Int32)), .val (.ref b178), .val (.int (0 : Int32)), .val (.int (1 : Int32)), .val (.int (2 : Int32)), .val (.int (1 : Int32)), .val (.int v98), .val (.int v99), .val (.int v100), .unset, .unset, .unset, .unset, .unset] [])) _
          refine XS.iconst X675.here hx rfl (hb hby at_265) ?_
          refine XS.goto X675.here hx rfl (pc0 := 266) (pc' := 270) rfl (hb hby at_266) (by decide) (by decide) ?_
          exact kt
        refine own_arm hgo676 ?_
        exact own_armEnd X675 N675 e675 (by rw [hv98.trans (if_pos hc262_101)])
      · have hgo677 : ∀ t, Steps p.tables e below (T675.setTop (mkF m 270 #[.val (.long q0), .second, .val (.long q1), .second, .val (.long q2), .second, .val (.long q3), .second, .val (.int p4), .val (.ref b101), .val (.ref b111), .val (.ref b127), .val (.ref b149), .val (.int v5), .val (.int (3 : Int32)), .val (.ref b178), .val (.int (0 : Int32)), .val (.int (1 : Int32)), .val (.int (2 : Int32)), .val (.int (1 : Int32)), .val (.int v98), .val (.int v99), .val (.int v100), .unset, .unset, .unset, .unset, .unset] [(.int (0 : Int32))])) t → Steps p.tables e below (T675.setTop (mkF m 262 #[.val (.long q0), .second, .val (.long q1), .second, .val (.long q2), .second, .val (.long q3), .second, .val (.int p4), .val (.ref b101), .val (.ref b111), .val (.ref b127), .val (.ref b149), .val (.int v5), .val (.int (3 : Int32)), .val (.ref b178), .val (.int (0 : Int32)), .val (.int (1 : Int32)), .val (.int (2 : Int32)), .val (.int (1 : Int32)), .val (.int v98), .val (.int v99), .val (.int v100), .unset, .unset, .unset, .unset, .unset] [(.int v5)])) t := by
          intro t kt
          show Steps p.tables e below (T675.setTop (mkF m 262 #[.val (.long q0), .second, .val (.long q1), .second, .val (.long q2), .second, .val (.long q3), .second, .val (.int p4), .val (.ref b101), .val (.ref b111), .val (.ref b127), .val (.ref b149), .val (.int v5), .val (.int (3 : Int32)), .val (.ref b178), .val (.int (0 : Int32)), .val (.int (1 : Int32)), .val (.int (2 : Int32)), .val (.int (1 : Int32)), .val (.int v98), .val (.int v99), .val (.int v100), .unset, .unset, .unset, .unset, .unset] [(.int v5)])) _
          refine XS.ifYes X675.here hx rfl (pc0 := 262) (pc' := 269) rfl (hb hby at_262) rfl ((if0 _ _).trans (feq hc262_101).2) (by decide) (by decide) ?_
          show Steps p.tables e below (T675.setTop (mkF m 269 #[.val (.long q0), .second, .val (.long q1), .second, .val (.long q2), .second, .val (.long q3), .second, .val (.int p4), .val (.ref b101), .val (.ref b111), .val (.ref b127), .val (.ref b149), .val (.int v5), .val (.int (3 : Int32)), .val (.ref b178), .val (.int (0 : Int32)), .val (.int (1 : Int32)), .val (.int (2 : Int32)), .val (.int (1 : Int32)), .val (.int v98), .val (.int v99), .val (.int v100), .unset, .unset, .unset, .unset, .unset] [])) _
          refine XS.iconst X675.here hx rfl (hb hby at_269) ?_
          exact kt
        refine own_arm hgo677 ?_
        exact own_armEnd X675 N675 e675 (by rw [hv98.trans (if_neg hc262_101)]))
    obtain ⟨T681, lc681, X681, N681, e681, st681⟩ := own_mrg (n0 := n0) (h := T654.heap) (g := (mkF m 280 #[.val (.long q0), .second, .val (.long q1), .second, .val (.long q2), .second, .val (.long q3), .second, .val (.int p4), .val (.ref b101), .val (.ref b111), .val (.ref b127), .val (.ref b149), .val (.int v5), .val (.int (3 : Int32)), .val (.ref b178), .val (.int (0 : Int32)), .val (.int (1 : Int32)), .val (.int (2 : Int32)), .val (.int (1 : Int32)), .val (.int v98), .val (.int v99), .val (.int v100), .val (.int v98), .unset, .unset, .unset, .unset] [(.int (1 : Int32)), (.int v5)])) (g' := (mkF m 288 #[.val (.long q0), .second, .val (.long q1), .second, .val (.long q2), .second, .val (.long q3), .second, .val (.int p4), .val (.ref b101), .val (.ref b111), .val (.ref b127), .val (.ref b149), .val (.int v5), .val (.int (3 : Int32)), .val (.ref b178), .val (.int (0 : Int32)), .val (.int (1 : Int32)), .val (.int (2 : Int32)), .val (.int (1 : Int32)), .val (.int v98), .val (.int v99), .val (.int v100), .val (.int v98), .unset, .unset, .unset, .unset] [(.int v99)])) X678 (by
      by_cases hc280_102 : v5 = (1 : Int32)
      · have hgo679 : ∀ t, Steps p.tables e below (T678.setTop (mkF m 288 #[.val (.long q0), .second, .val (.long q1), .second, .val (.long q2), .second, .val (.long q3), .second, .val (.int p4), .val (.ref b101), .val (.ref b111), .val (.ref b127), .val (.ref b149), .val (.int v5), .val (.int (3 : Int32)), .val (.ref b178), .val (.int (0 : Int32)), .val (.int (1 : Int32)), .val (.int (2 : Int32)), .val (.int (1 : Int32)), .val (.int v98), .val (.int v99), .val (.int v100), .val (.int v98), .unset, .unset, .unset, .unset] [(.int (-1 : Int32))])) t → Steps p.tables e below (T678.setTop (mkF m 280 #[.val (.long q0), .second, .val (.long q1), .second, .val (.long q2), .second, .val (.long q3), .second, .val (.int p4), .val (.ref b101), .val (.ref b111), .val (.ref b127), .val (.ref b149), .val (.int v5), .val (.int (3 : Int32)), .val (.ref b178), .val (.int (0 : Int32)), .val (.int (1 : Int32)), .val (.int (2 : Int32)), .val (.int (1 : Int32)), .val (.int v98), .val (.int v99), .val (.int v100), .val (.int v98), .unset, .unset, .unset, .unset] [(.int (1 : Int32)), (.int v5)])) t := by
          intro t kt
          show Steps p.tables e below (T678.setTop (mkF m 280 #[.val (.long q0), .second, .val (.long q1), .second, .val (.long q2), .second, .val (.long q3), .second, .val (.int p4), .val (.ref b101), .val (.ref b111), .val (.ref b127), .val (.ref b149), .val (.int v5), .val (.int (3 : Int32)), .val (.ref b178), .val (.int (0 : Int32)), .val (.int (1 : Int32)), .val (.int (2 : Int32)), .val (.int (1 : Int32)), .val (.int v98), .val (.int v99), .val (.int v100), .val (.int v98), .unset, .unset, .unset, .unset] [(.int (1 : Int32)), (.int v5)])) _
          refine XS.icmpNo X678.here hx rfl (hb hby at_280) rfl (teq hc280_102).2 ?_
          show Steps p.tables e below (T678.setTop (mkF m 283 #[.val (.long q0), .second, .val (.long q1), .second, .val (.long q2), .second, .val (.long q3), .second, .val (.int p4), .val (.ref b101), .val (.ref b111), .val (.ref b127), .val (.ref b149), .val (.int v5), .val (.int (3 : Int32)), .val (.ref b178), .val (.int (0 : Int32)), .val (.int (1 : Int32)), .val (.int (2 : Int32)), .val (.int (1 : Int32)), .val (.int v98), .val (.int v99), .val (.int v100), .val (.int v98), .unset, .unset, .unset, .unset] [])) _
          refine XS.iconst X678.here hx rfl (hb hby at_283) ?_
          refine XS.goto X678.here hx rfl (pc0 := 284) (pc' := 288) rfl (hb hby at_284) (by decide) (by decide) ?_
          exact kt
        refine own_arm hgo679 ?_
        exact own_armEnd X678 N678 e678 (by rw [hv99.trans (if_pos hc280_102)])
      · have hgo680 : ∀ t, Steps p.tables e below (T678.setTop (mkF m 288 #[.val (.long q0), .second, .val (.long q1), .second, .val (.long q2), .second, .val (.long q3), .second, .val (.int p4), .val (.ref b101), .val (.ref b111), .val (.ref b127), .val (.ref b149), .val (.int v5), .val (.int (3 : Int32)), .val (.ref b178), .val (.int (0 : Int32)), .val (.int (1 : Int32)), .val (.int (2 : Int32)), .val (.int (1 : Int32)), .val (.int v98), .val (.int v99), .val (.int v100), .val (.int v98), .unset, .unset, .unset, .unset] [(.int (1 : Int32))])) t → Steps p.tables e below (T678.setTop (mkF m 280 #[.val (.long q0), .second, .val (.long q1), .second, .val (.long q2), .second, .val (.long q3), .second, .val (.int p4), .val (.ref b101), .val (.ref b111), .val (.ref b127), .val (.ref b149), .val (.int v5), .val (.int (3 : Int32)), .val (.ref b178), .val (.int (0 : Int32)), .val (.int (1 : Int32)), .val (.int (2 : Int32)), .val (.int (1 : Int32)), .val (.int v98), .val (.int v99), .val (.int v100), .val (.int v98), .unset, .unset, .unset, .unset] [(.int (1 : Int32)), (.int v5)])) t := by
          intro t kt
          show Steps p.tables e below (T678.setTop (mkF m 280 #[.val (.long q0), .second, .val (.long q1), .second, .val (.long q2), .second, .val (.long q3), .second, .val (.int p4), .val (.ref b101), .val (.ref b111), .val (.ref b127), .val (.ref b149), .val (.int v5), .val (.int (3 : Int32)), .val (.ref b178), .val (.int (0 : Int32)), .val (.int (1 : Int32)), .val (.int (2 : Int32)), .val (.int (1 : Int32)), .val (.int v98), .val (.int v99), .val (.int v100), .val (.int v98), .unset, .unset, .unset, .unset] [(.int (1 : Int32)), (.int v5)])) _
          refine XS.icmpYes X678.here hx rfl (pc0 := 280) (pc' := 287) rfl (hb hby at_280) rfl (feq hc280_102).2 (by decide) (by decide) ?_
          show Steps p.tables e below (T678.setTop (mkF m 287 #[.val (.long q0), .second, .val (.long q1), .second, .val (.long q2), .second, .val (.long q3), .second, .val (.int p4), .val (.ref b101), .val (.ref b111), .val (.ref b127), .val (.ref b149), .val (.int v5), .val (.int (3 : Int32)), .val (.ref b178), .val (.int (0 : Int32)), .val (.int (1 : Int32)), .val (.int (2 : Int32)), .val (.int (1 : Int32)), .val (.int v98), .val (.int v99), .val (.int v100), .val (.int v98), .unset, .unset, .unset, .unset] [])) _
          refine XS.iconst X678.here hx rfl (hb hby at_287) ?_
          exact kt
        refine own_arm hgo680 ?_
        exact own_armEnd X678 N678 e678 (by rw [hv99.trans (if_neg hc280_102)]))
    obtain ⟨T684, lc684, X684, N684, e684, st684⟩ := own_mrg (n0 := n0) (h := T654.heap) (g := (mkF m 298 #[.val (.long q0), .second, .val (.long q1), .second, .val (.long q2), .second, .val (.long q3), .second, .val (.int p4), .val (.ref b101), .val (.ref b111), .val (.ref b127), .val (.ref b149), .val (.int v5), .val (.int (3 : Int32)), .val (.ref b178), .val (.int (0 : Int32)), .val (.int (1 : Int32)), .val (.int (2 : Int32)), .val (.int (1 : Int32)), .val (.int v98), .val (.int v99), .val (.int v100), .val (.int v98), .val (.int v99), .unset, .unset, .unset] [(.int (2 : Int32)), (.int v5)])) (g' := (mkF m 306 #[.val (.long q0), .second, .val (.long q1), .second, .val (.long q2), .second, .val (.long q3), .second, .val (.int p4), .val (.ref b101), .val (.ref b111), .val (.ref b127), .val (.ref b149), .val (.int v5), .val (.int (3 : Int32)), .val (.ref b178), .val (.int (0 : Int32)), .val (.int (1 : Int32)), .val (.int (2 : Int32)), .val (.int (1 : Int32)), .val (.int v98), .val (.int v99), .val (.int v100), .val (.int v98), .val (.int v99), .unset, .unset, .unset] [(.int v100)])) X681 (by
      by_cases hc298_103 : v5 = (2 : Int32)
      · have hgo682 : ∀ t, Steps p.tables e below (T681.setTop (mkF m 306 #[.val (.long q0), .second, .val (.long q1), .second, .val (.long q2), .second, .val (.long q3), .second, .val (.int p4), .val (.ref b101), .val (.ref b111), .val (.ref b127), .val (.ref b149), .val (.int v5), .val (.int (3 : Int32)), .val (.ref b178), .val (.int (0 : Int32)), .val (.int (1 : Int32)), .val (.int (2 : Int32)), .val (.int (1 : Int32)), .val (.int v98), .val (.int v99), .val (.int v100), .val (.int v98), .val (.int v99), .unset, .unset, .unset] [(.int (-1 : Int32))])) t → Steps p.tables e below (T681.setTop (mkF m 298 #[.val (.long q0), .second, .val (.long q1), .second, .val (.long q2), .second, .val (.long q3), .second, .val (.int p4), .val (.ref b101), .val (.ref b111), .val (.ref b127), .val (.ref b149), .val (.int v5), .val (.int (3 : Int32)), .val (.ref b178), .val (.int (0 : Int32)), .val (.int (1 : Int32)), .val (.int (2 : Int32)), .val (.int (1 : Int32)), .val (.int v98), .val (.int v99), .val (.int v100), .val (.int v98), .val (.int v99), .unset, .unset, .unset] [(.int (2 : Int32)), (.int v5)])) t := by
          intro t kt
          show Steps p.tables e below (T681.setTop (mkF m 298 #[.val (.long q0), .second, .val (.long q1), .second, .val (.long q2), .second, .val (.long q3), .second, .val (.int p4), .val (.ref b101), .val (.ref b111), .val (.ref b127), .val (.ref b149), .val (.int v5), .val (.int (3 : Int32)), .val (.ref b178), .val (.int (0 : Int32)), .val (.int (1 : Int32)), .val (.int (2 : Int32)), .val (.int (1 : Int32)), .val (.int v98), .val (.int v99), .val (.int v100), .val (.int v98), .val (.int v99), .unset, .unset, .unset] [(.int (2 : Int32)), (.int v5)])) _
          refine XS.icmpNo X681.here hx rfl (hb hby at_298) rfl (teq hc298_103).2 ?_
          show Steps p.tables e below (T681.setTop (mkF m 301 #[.val (.long q0), .second, .val (.long q1), .second, .val (.long q2), .second, .val (.long q3), .second, .val (.int p4), .val (.ref b101), .val (.ref b111), .val (.ref b127), .val (.ref b149), .val (.int v5), .val (.int (3 : Int32)), .val (.ref b178), .val (.int (0 : Int32)), .val (.int (1 : Int32)), .val (.int (2 : Int32)), .val (.int (1 : Int32)), .val (.int v98), .val (.int v99), .val (.int v100), .val (.int v98), .val (.int v99), .unset, .unset, .unset] [])) _
          refine XS.iconst X681.here hx rfl (hb hby at_301) ?_
          refine XS.goto X681.here hx rfl (pc0 := 302) (pc' := 306) rfl (hb hby at_302) (by decide) (by decide) ?_
          exact kt
        refine own_arm hgo682 ?_
        exact own_armEnd X681 N681 e681 (by rw [hv100.trans (if_pos hc298_103)])
      · have hgo683 : ∀ t, Steps p.tables e below (T681.setTop (mkF m 306 #[.val (.long q0), .second, .val (.long q1), .second, .val (.long q2), .second, .val (.long q3), .second, .val (.int p4), .val (.ref b101), .val (.ref b111), .val (.ref b127), .val (.ref b149), .val (.int v5), .val (.int (3 : Int32)), .val (.ref b178), .val (.int (0 : Int32)), .val (.int (1 : Int32)), .val (.int (2 : Int32)), .val (.int (1 : Int32)), .val (.int v98), .val (.int v99), .val (.int v100), .val (.int v98), .val (.int v99), .unset, .unset, .unset] [(.int (2 : Int32))])) t → Steps p.tables e below (T681.setTop (mkF m 298 #[.val (.long q0), .second, .val (.long q1), .second, .val (.long q2), .second, .val (.long q3), .second, .val (.int p4), .val (.ref b101), .val (.ref b111), .val (.ref b127), .val (.ref b149), .val (.int v5), .val (.int (3 : Int32)), .val (.ref b178), .val (.int (0 : Int32)), .val (.int (1 : Int32)), .val (.int (2 : Int32)), .val (.int (1 : Int32)), .val (.int v98), .val (.int v99), .val (.int v100), .val (.int v98), .val (.int v99), .unset, .unset, .unset] [(.int (2 : Int32)), (.int v5)])) t := by
          intro t kt
          show Steps p.tables e below (T681.setTop (mkF m 298 #[.val (.long q0), .second, .val (.long q1), .second, .val (.long q2), .second, .val (.long q3), .second, .val (.int p4), .val (.ref b101), .val (.ref b111), .val (.ref b127), .val (.ref b149), .val (.int v5), .val (.int (3 : Int32)), .val (.ref b178), .val (.int (0 : Int32)), .val (.int (1 : Int32)), .val (.int (2 : Int32)), .val (.int (1 : Int32)), .val (.int v98), .val (.int v99), .val (.int v100), .val (.int v98), .val (.int v99), .unset, .unset, .unset] [(.int (2 : Int32)), (.int v5)])) _
          refine XS.icmpYes X681.here hx rfl (pc0 := 298) (pc' := 305) rfl (hb hby at_298) rfl (feq hc298_103).2 (by decide) (by decide) ?_
          show Steps p.tables e below (T681.setTop (mkF m 305 #[.val (.long q0), .second, .val (.long q1), .second, .val (.long q2), .second, .val (.long q3), .second, .val (.int p4), .val (.ref b101), .val (.ref b111), .val (.ref b127), .val (.ref b149), .val (.int v5), .val (.int (3 : Int32)), .val (.ref b178), .val (.int (0 : Int32)), .val (.int (1 : Int32)), .val (.int (2 : Int32)), .val (.int (1 : Int32)), .val (.int v98), .val (.int v99), .val (.int v100), .val (.int v98), .val (.int v99), .unset, .unset, .unset] [])) _
          refine XS.iconst X681.here hx rfl (hb hby at_305) ?_
          exact kt
        refine own_arm hgo683 ?_
        exact own_armEnd X681 N681 e681 (by rw [hv100.trans (if_neg hc298_103)]))
    obtain ⟨cq685, kq685, q685a, q685b, q685c⟩ := isOf hZ e684 F654_2
    obtain ⟨_, _, ⟨T685, L685, k685, n685⟩, -, X685, ⟨Lc685, hQ685, l685, y685, z685⟩, st685⟩ := X684.virtualBack hx (y := (⟨"com/example/upper_falls/upperfalls/HeldKeys", "hold", "(Lcom/example/upper_falls/upperfalls/KeyHash;)I"⟩ : MethodName)) (z := (⟨"com/example/upper_falls/upperfalls/HeldKeys", "hold", "(Lcom/example/upper_falls/upperfalls/KeyHash;)I"⟩ : MethodName)) hown (mvT hZ (own_wd hw 71 rfl)) (mvT hZ (own_wd hw 72 rfl)) (notFace_of_selects (args := #[]) (mvT hZ (own_wd hw 74 rfl))) (mvT hZ (own_wd hw 74 rfl)) (mvT hZ (own_wd hw 73 rfl)) (by decide) (backOf (W := 0) (rmhf l Z a0 hw [] b178 b149 b202_0 b202_1 b202_2 b202_3 b202_4 b202_5 v23 v24 v25 v95 v97 v96 v4 (3 : Int64) (3 : Int32) (3 : Int32) 3 (own_E (own_F4 ((v1.toInt32) &&& (31 : Int32)) ((v2.toInt32) &&& (31 : Int32)) ((v3.toInt32) &&& (31 : Int32)) v5) ((v4.toInt32) &&& (31 : Int32))) (T654.heap) n0 Z671 F654_2 F654_3 F654_4 F654_5 F654_6 F654_7 F654_8 F654_9 F654_10 F654_11 F668 F669 F670 F654_0n F654_12n F654_1n F664 F665 F666 ((by rw [hF4]; exact V4) : own_V 3 v96) ((own_Mk (t := 3) (by decide) (by decide) rfl rfl G3 (fun q => absurd q (by decide))) : own_M 3 v23 v24 (3 : Int32) v4 (3 : Int64)) (by decide : 3 ≤ 3) ((by rw [hF4]; exact ck3) : own_fnd v96 (3 : Int32) 8 ((v4.toInt32) &&& (31 : Int32)) = some (-1 : Int32)) ((by rw [hv97]; exact rl1) : (¬ (v97 0) < 0 ∧ (v97 0).toNatClampNeg < 16)) ((by rw [hF4]; exact cz3) : own_emp v96 8 ((v4.toInt32) &&& (31 : Int32)) = some (own_E (own_F4 ((v1.toInt32) &&& (31 : Int32)) ((v2.toInt32) &&& (31 : Int32)) ((v3.toInt32) &&& (31 : Int32)) v5) ((v4.toInt32) &&& (31 : Int32)))) (Ne.symm ne_b178_b202_0) (Ne.symm ne_b178_b202_1) (Ne.symm ne_b178_b202_2) (Ne.symm ne_b178_b202_3) (Ne.symm ne_b178_b202_4) (Ne.symm ne_b178_b202_5) ne_b149_b178 g_b178 ne_b178_b202_0 (Ne.symm F202_6) (Ne.symm F202_7) (Ne.symm F202_8) (Ne.symm F202_9) (Ne.symm F202_10) ne_b149_b202_0 g_b202_0 ne_b178_b202_1 (Ne.symm F202_11) (Ne.symm F202_12) (Ne.symm F202_13) (Ne.symm F202_14) ne_b149_b202_1 F202_6 g_b202_1 ne_b178_b202_2 (Ne.symm F202_15) (Ne.symm F202_16) (Ne.symm F202_17) ne_b149_b202_2 F202_7 F202_11 g_b202_2 ne_b178_b202_5 F202_19 F202_20 ne_b149_b202_5 F202_10 F202_14 F202_17 g_b202_5 ne_b178_b202_3 (Ne.symm F202_18) ne_b149_b202_3 F202_8 F202_12 F202_15 (Ne.symm F202_19) g_b202_3) hZ (own_wd hw 75 rfl) (own_wd hw 27 rfl) (by decide) (by decide)) q685a q685c (g := (mkF m 312 #[.val (.long q0), .second, .val (.long q1), .second, .val (.long q2), .second, .val (.long q3), .second, .val (.int p4), .val (.ref b101), .val (.ref b111), .val (.ref b127), .val (.ref b149), .val (.int v5), .val (.int (3 : Int32)), .val (.ref b178), .val (.int (0 : Int32)), .val (.int (1 : Int32)), .val (.int (2 : Int32)), .val (.int (1 : Int32)), .val (.int v98), .val (.int v99), .val (.int v100), .val (.int v98), .val (.int v99), .val (.int v100), .unset, .unset] [(.ref b149), (.ref b178)])) rfl (by rw [hml]; rfl) (Steps.refl _) (argsL := [(.ref b149)]) (rest := []) (lenOf pd13 rfl) rfl (by show 2 * 0 + _ ≤ _; exact Nat.le_of_eq rfl) (hb hby at_312) (fun _ _ => ⟨rfl, e684, (by decide : 11 + 0 ≤ _), (by decide : 129 + 0 ≤ _)⟩)
    dsimp only [Pt.U, Pt.locs, Pt.cells, Pt.slots] at X685 l685 y685 z685 st685 hQ685
    subst l685 y685 z685
    obtain ⟨rfl, N685q, K685q, F685_0, F685_1, F685_2, F685_3, F685_4, F685_5, F685_6, F685_7, F685_8, F685_9, F685_10, F685_11, F685_12, F685_13, F685_14⟩ := hQ685
    have F686 := F655.keep K685q
    have F687 := F656.keep K685q (ninS ne_b101_b178 (ninS ne_b101_b202_0 (ninS ne_b101_b202_1 (ninS ne_b101_b202_2 (ninS ne_b101_b202_5 (ninS ne_b101_b202_3 nin0))))))
    have F688 := F657.keep K685q (ninS ne_b101_b178 (ninS ne_b101_b202_0 (ninS ne_b101_b202_1 (ninS ne_b101_b202_2 (ninS ne_b101_b202_5 (ninS ne_b101_b202_3 nin0))))))
    have F689 := F658.keep K685q
    have F690 := F659.keep K685q (ninS ne_b111_b178 (ninS ne_b111_b202_0 (ninS ne_b111_b202_1 (ninS ne_b111_b202_2 (ninS ne_b111_b202_5 (ninS ne_b111_b202_3 nin0))))))
    have F691 := F660.keep K685q (ninS ne_b111_b178 (ninS ne_b111_b202_0 (ninS ne_b111_b202_1 (ninS ne_b111_b202_2 (ninS ne_b111_b202_5 (ninS ne_b111_b202_3 nin0))))))
    have F692 := F661.keep K685q
    have F693 := F662.keep K685q (ninS ne_b127_b178 (ninS ne_b127_b202_0 (ninS ne_b127_b202_1 (ninS ne_b127_b202_2 (ninS ne_b127_b202_5 (ninS ne_b127_b202_3 nin0))))))
    have F694 := F663.keep K685q (ninS ne_b127_b178 (ninS ne_b127_b202_0 (ninS ne_b127_b202_1 (ninS ne_b127_b202_2 (ninS ne_b127_b202_5 (ninS ne_b127_b202_3 nin0))))))
    have F695 := F664.keep K685q
    have F696 := F665.keep K685q (ninS ne_b149_b178 (ninS ne_b149_b202_0 (ninS ne_b149_b202_1 (ninS ne_b149_b202_2 (ninS ne_b149_b202_5 (ninS ne_b149_b202_3 nin0))))))
    have F697 := F666.keep K685q (ninS ne_b149_b178 (ninS ne_b149_b202_0 (ninS ne_b149_b202_1 (ninS ne_b149_b202_2 (ninS ne_b149_b202_5 (ninS ne_b149_b202_3 nin0))))))
    have F698 := F654_2.keep K685q
    have F699 := F654_12n.keep K685q (ninS (Ne.symm ne_b178_b202_4) (ninS (Ne.symm F202_9) (ninS (Ne.symm F202_13) (ninS (Ne.symm F202_16) (ninS F202_20 (ninS (Ne.symm F202_18) nin0))))))
    have Z700 : n0 ≤ T685.heap.size := Nat.le_trans Z671 K685q.1
    have K701 : Keep h0 T685.heap [] := K672.trans K685q (allS (Or.inr sz_b178) (allS (Or.inr sz_b202_0) (allS (Or.inr sz_b202_1) (allS (Or.inr sz_b202_2) (allS (Or.inr sz_b202_5) (allS (Or.inr sz_b202_3) all0))))))
    obtain ⟨v104, hv104⟩ : ∃ z : Nat → Int64, z = (own_up v23 ((v97 0).toNatClampNeg) v4) := ⟨_, rfl⟩
    have F685_10n : own_AJ Z T685.heap b202_0 .long 16 v104 := by rw [hv104]; exact F685_10
    obtain ⟨v105, hv105⟩ : ∃ z : Nat → Int64, z = (own_up v24 ((v97 0).toNatClampNeg) (3 : Int64)) := ⟨_, rfl⟩
    have F685_11n : own_AJ Z T685.heap b202_1 .long 16 v105 := by rw [hv105]; exact F685_11
    obtain ⟨v106, hv106⟩ : ∃ z : Nat → Int64, z = (own_up v25 ((v97 0).toNatClampNeg) (0 : Int64)) := ⟨_, rfl⟩
    have F685_12n : own_AJ Z T685.heap b202_2 .long 16 v106 := by rw [hv106]; exact F685_12
    obtain ⟨v107, hv107⟩ : ∃ z : Nat → Int32, z = (own_up v96 ((own_E (own_F4 ((v1.toInt32) &&& (31 : Int32)) ((v2.toInt32) &&& (31 : Int32)) ((v3.toInt32) &&& (31 : Int32)) v5) ((v4.toInt32) &&& (31 : Int32))).toNatClampNeg) (v97 0)) := ⟨_, rfl⟩
    have F685_13n : own_AI Z T685.heap b202_5 .int 32 v107 := by rw [hv107]; exact F685_13
    obtain ⟨v108, hv108⟩ : ∃ z : Nat → Int32, z = (own_up v95 ((v97 0).toNatClampNeg) ((v95 (v97 0).toNatClampNeg) + (1 : Int32))) := ⟨_, rfl⟩
    have F685_14n : own_AI Z T685.heap b202_3 .int 16 v108 := by rw [hv108]; exact F685_14
    have N685 := Fr.app N684 N685q
    obtain ⟨v109, hv109⟩ : ∃ z : Int32, z = (v97 0) := ⟨_, rfl⟩
    have hgo702 : ∀ t, Steps p.tables e below (T685.setTop (mkF m 363 #[.val (.long q0), .second, .val (.long q1), .second, .val (.long q2), .second, .val (.long q3), .second, .val (.int p4), .val (.ref b101), .val (.ref b111), .val (.ref b127), .val (.ref b149), .val (.int v5), .val (.int (3 : Int32)), .val (.ref b178), .val (.int (0 : Int32)), .val (.int (1 : Int32)), .val (.int (2 : Int32)), .val (.int (1 : Int32)), .val (.int v98), .val (.int v99), .val (.int v100), .val (.int v98), .val (.int v99), .val (.int v100), .val (.int v109), .val (.int v5)] [(.int (1 : Int32))])) t → Steps p.tables e below (T252.setTop (mkF m 172 #[.val (.long q0), .second, .val (.long q1), .second, .val (.long q2), .second, .val (.long q3), .second, .val (.int p4), .val (.ref b101), .val (.ref b111), .val (.ref b127), .val (.ref b149), .val (.int v5), .val (.int v6), .val (.ref b178), .val (.int (0 : Int32)), .val (.int (1 : Int32)), .val (.int (2 : Int32)), .unset, .unset, .unset, .unset, .unset, .unset, .unset, .unset, .unset] [])) t := by
      intro t kt
      show Steps p.tables e below (T252.setTop (mkF m 172 #[.val (.long q0), .second, .val (.long q1), .second, .val (.long q2), .second, .val (.long q3), .second, .val (.int p4), .val (.ref b101), .val (.ref b111), .val (.ref b127), .val (.ref b149), .val (.int v5), .val (.int v6), .val (.ref b178), .val (.int (0 : Int32)), .val (.int (1 : Int32)), .val (.int (2 : Int32)), .unset, .unset, .unset, .unset, .unset, .unset, .unset, .unset, .unset] [])) _
      rw [hs172_94]
      show Steps p.tables e below (T252.setTop (mkF m 172 #[.val (.long q0), .second, .val (.long q1), .second, .val (.long q2), .second, .val (.long q3), .second, .val (.int p4), .val (.ref b101), .val (.ref b111), .val (.ref b127), .val (.ref b149), .val (.int v5), .val (.int (3 : Int32)), .val (.ref b178), .val (.int (0 : Int32)), .val (.int (1 : Int32)), .val (.int (2 : Int32)), .unset, .unset, .unset, .unset, .unset, .unset, .unset, .unset, .unset] [])) _
      refine XS.iload X252.here hx rfl (hb hby at_172) rfl ?_
      refine XS.iconst X252.here hx rfl (hb hby at_174) ?_
      refine XS.icmpYes X252.here hx rfl (pc0 := 175) (pc' := 207) rfl (hb hby at_175) rfl (flt (by decide : ¬ ((3 : Int32) < (3 : Int32)))).2.1 (by decide) (by decide) ?_
      show Steps p.tables e below (T252.setTop (mkF m 207 #[.val (.long q0), .second, .val (.long q1), .second, .val (.long q2), .second, .val (.long q3), .second, .val (.int p4), .val (.ref b101), .val (.ref b111), .val (.ref b127), .val (.ref b149), .val (.int v5), .val (.int (3 : Int32)), .val (.ref b178), .val (.int (0 : Int32)), .val (.int (1 : Int32)), .val (.int (2 : Int32)), .unset, .unset, .unset, .unset, .unset, .unset, .unset, .unset, .unset] [])) _
      refine XS.aload X252.here hx rfl (hb hby at_207) rfl rfl ?_
      refine XS.iload X252.here hx rfl (hb hby at_209) rfl ?_
      show Steps p.tables e below (T252.setTop (mkF m 211 #[.val (.long q0), .second, .val (.long q1), .second, .val (.long q2), .second, .val (.long q3), .second, .val (.int p4), .val (.ref b101), .val (.ref b111), .val (.ref b127), .val (.ref b149), .val (.int v5), .val (.int (3 : Int32)), .val (.ref b178), .val (.int (0 : Int32)), .val (.int (1 : Int32)), .val (.int (2 : Int32)), .unset, .unset, .unset, .unset, .unset, .unset, .unset, .unset, .unset] [(.int v5), (.ref b178)])) _
      refine st654.trans ?_
      show Steps p.tables e below (T654.setTop (mkF m 214 #[.val (.long q0), .second, .val (.long q1), .second, .val (.long q2), .second, .val (.long q3), .second, .val (.int p4), .val (.ref b101), .val (.ref b111), .val (.ref b127), .val (.ref b149), .val (.int v5), .val (.int (3 : Int32)), .val (.ref b178), .val (.int (0 : Int32)), .val (.int (1 : Int32)), .val (.int (2 : Int32)), .unset, .unset, .unset, .unset, .unset, .unset, .unset, .unset, .unset] [])) _
      refine XS.iload X654.here hx rfl (hb hby at_214) rfl ?_
      refine XS.iload X654.here hx rfl (hb hby at_216) rfl ?_
      refine XS.icmpNo X654.here hx rfl (hb hby at_218) rfl (feq rl2).1 ?_
      show Steps p.tables e below (T654.setTop (mkF m 221 #[.val (.long q0), .second, .val (.long q1), .second, .val (.long q2), .second, .val (.long q3), .second, .val (.int p4), .val (.ref b101), .val (.ref b111), .val (.ref b127), .val (.ref b149), .val (.int v5), .val (.int (3 : Int32)), .val (.ref b178), .val (.int (0 : Int32)), .val (.int (1 : Int32)), .val (.int (2 : Int32)), .unset, .unset, .unset, .unset, .unset, .unset, .unset, .unset, .unset] [])) _
      refine XS.iconst X654.here hx rfl (hb hby at_221) ?_
      refine XS.goto X654.here hx rfl (pc0 := 222) (pc' := 226) rfl (hb hby at_222) (by decide) (by decide) ?_
      show Steps p.tables e below (T654.setTop (mkF m 226 #[.val (.long q0), .second, .val (.long q1), .second, .val (.long q2), .second, .val (.long q3), .second, .val (.int p4), .val (.ref b101), .val (.ref b111), .val (.ref b127), .val (.ref b149), .val (.int v5), .val (.int (3 : Int32)), .val (.ref b178), .val (.int (0 : Int32)), .val (.int (1 : Int32)), .val (.int (2 : Int32)), .unset, .unset, .unset, .unset, .unset, .unset, .unset, .unset, .unset] [(.int (1 : Int32))])) _
      refine XS.istore X654.here hx rfl (hb hby at_226) rfl (l' := #[.val (.long q0), .second, .val (.long q1), .second, .val (.long q2), .second, .val (.long q3), .second, .val (.int p4), .val (.ref b101), .val (.ref b111), .val (.ref b127), .val (.ref b149), .val (.int v5), .val (.int (3 : Int32)), .val (.ref b178), .val (.int (0 : Int32)), .val (.int (1 : Int32)), .val (.int (2 : Int32)), .val (.int (1 : Int32)), .unset, .unset, .unset, .unset, .unset, .unset, .unset, .unset]) rfl ?_
      show Steps p.tables e below (T654.setTop (mkF m 228 #[.val (.long q0), .second, .val (.long q1), .second, .val (.long q2), .second, .val (.long q3), .second, .val (.int p4), .val (.ref b101), .val (.ref b111), .val (.ref b127), .val (.ref b149), .val (.int v5), .val (.int (3 : Int32)), .val (.ref b178), .val (.int (0 : Int32)), .val (.int (1 : Int32)), .val (.int (2 : Int32)), .val (.int (1 : Int32)), .unset, .unset, .unset, .unset, .unset, .unset, .unset, .unset] [])) _
      refine XS.aload X654.here hx rfl (hb hby at_228) rfl rfl ?_
      refine XS.aload X654.here hx rfl (hb hby at_230) rfl rfl ?_
      show Steps p.tables e below (T654.setTop (mkF m 232 #[.val (.long q0), .second, .val (.long q1), .second, .val (.long q2), .second, .val (.long q3), .second, .val (.int p4), .val (.ref b101), .val (.ref b111), .val (.ref b127), .val (.ref b149), .val (.int v5), .val (.int (3 : Int32)), .val (.ref b178), .val (.int (0 : Int32)), .val (.int (1 : Int32)), .val (.int (2 : Int32)), .val (.int (1 : Int32)), .unset, .unset, .unset, .unset, .unset, .unset, .unset, .unset] [(.ref b101), (.ref b178)])) _
      refine st673.trans ?_
      show Steps p.tables e below (T673.setTop (mkF m 235 #[.val (.long q0), .second, .val (.long q1), .second, .val (.long q2), .second, .val (.long q3), .second, .val (.int p4), .val (.ref b101), .val (.ref b111), .val (.ref b127), .val (.ref b149), .val (.int v5), .val (.int (3 : Int32)), .val (.ref b178), .val (.int (0 : Int32)), .val (.int (1 : Int32)), .val (.int (2 : Int32)), .val (.int (1 : Int32)), .unset, .unset, .unset, .unset, .unset, .unset, .unset, .unset] [(.int (if v5 = (0 : Int32) then (-1 : Int32) else (0 : Int32)))])) _
      rw [← hv98]
      show Steps p.tables e below (T673.setTop (mkF m 235 #[.val (.long q0), .second, .val (.long q1), .second, .val (.long q2), .second, .val (.long q3), .second, .val (.int p4), .val (.ref b101), .val (.ref b111), .val (.ref b127), .val (.ref b149), .val (.int v5), .val (.int (3 : Int32)), .val (.ref b178), .val (.int (0 : Int32)), .val (.int (1 : Int32)), .val (.int (2 : Int32)), .val (.int (1 : Int32)), .unset, .unset, .unset, .unset, .unset, .unset, .unset, .unset] [(.int v98)])) _
      refine XS.istore X673.here hx rfl (hb hby at_235) rfl (l' := #[.val (.long q0), .second, .val (.long q1), .second, .val (.long q2), .second, .val (.long q3), .second, .val (.int p4), .val (.ref b101), .val (.ref b111), .val (.ref b127), .val (.ref b149), .val (.int v5), .val (.int (3 : Int32)), .val (.ref b178), .val (.int (0 : Int32)), .val (.int (1 : Int32)), .val (.int (2 : Int32)), .val (.int (1 : Int32)), .val (.int v98), .unset, .unset, .unset, .unset, .unset, .unset, .unset]) rfl ?_
      show Steps p.tables e below (T673.setTop (mkF m 237 #[.val (.long q0), .second, .val (.long q1), .second, .val (.long q2), .second, .val (.long q3), .second, .val (.int p4), .val (.ref b101), .val (.ref b111), .val (.ref b127), .val (.ref b149), .val (.int v5), .val (.int (3 : Int32)), .val (.ref b178), .val (.int (0 : Int32)), .val (.int (1 : Int32)), .val (.int (2 : Int32)), .val (.int (1 : Int32)), .val (.int v98), .unset, .unset, .unset, .unset, .unset, .unset, .unset] [])) _
      refine XS.aload X673.here hx rfl (hb hby at_237) rfl rfl ?_
      refine XS.aload X673.here hx rfl (hb hby at_239) rfl rfl ?_
      show Steps p.tables e below (T673.setTop (mkF m 241 #[.val (.long q0), .second, .val (.long q1), .second, .val (.long q2), .second, .val (.long q3), .second, .val (.int p4), .val (.ref b101), .val (.ref b111), .val (.ref b127), .val (.ref b149), .val (.int v5), .val (.int (3 : Int32)), .val (.ref b178), .val (.int (0 : Int32)), .val (.int (1 : Int32)), .val (.int (2 : Int32)), .val (.int (1 : Int32)), .val (.int v98), .unset, .unset, .unset, .unset, .unset, .unset, .unset] [(.ref b111), (.ref b178)])) _
      refine st674.trans ?_
      show Steps p.tables e below (T674.setTop (mkF m 244 #[.val (.long q0), .second, .val (.long q1), .second, .val (.long q2), .second, .val (.long q3), .second, .val (.int p4), .val (.ref b101), .val (.ref b111), .val (.ref b127), .val (.ref b149), .val (.int v5), .val (.int (3 : Int32)), .val (.ref b178), .val (.int (0 : Int32)), .val (.int (1 : Int32)), .val (.int (2 : Int32)), .val (.int (1 : Int32)), .val (.int v98), .unset, .unset, .unset, .unset, .unset, .unset, .unset] [(.int (if v5 = (1 : Int32) then (-1 : Int32) else (1 : Int32)))])) _
      rw [← hv99]
      show Steps p.tables e below (T674.setTop (mkF m 244 #[.val (.long q0), .second, .val (.long q1), .second, .val (.long q2), .second, .val (.long q3), .second, .val (.int p4), .val (.ref b101), .val (.ref b111), .val (.ref b127), .val (.ref b149), .val (.int v5), .val (.int (3 : Int32)), .val (.ref b178), .val (.int (0 : Int32)), .val (.int (1 : Int32)), .val (.int (2 : Int32)), .val (.int (1 : Int32)), .val (.int v98), .unset, .unset, .unset, .unset, .unset, .unset, .unset] [(.int v99)])) _
      refine XS.istore X674.here hx rfl (hb hby at_244) rfl (l' := #[.val (.long q0), .second, .val (.long q1), .second, .val (.long q2), .second, .val (.long q3), .second, .val (.int p4), .val (.ref b101), .val (.ref b111), .val (.ref b127), .val (.ref b149), .val (.int v5), .val (.int (3 : Int32)), .val (.ref b178), .val (.int (0 : Int32)), .val (.int (1 : Int32)), .val (.int (2 : Int32)), .val (.int (1 : Int32)), .val (.int v98), .val (.int v99), .unset, .unset, .unset, .unset, .unset, .unset]) rfl ?_
      show Steps p.tables e below (T674.setTop (mkF m 246 #[.val (.long q0), .second, .val (.long q1), .second, .val (.long q2), .second, .val (.long q3), .second, .val (.int p4), .val (.ref b101), .val (.ref b111), .val (.ref b127), .val (.ref b149), .val (.int v5), .val (.int (3 : Int32)), .val (.ref b178), .val (.int (0 : Int32)), .val (.int (1 : Int32)), .val (.int (2 : Int32)), .val (.int (1 : Int32)), .val (.int v98), .val (.int v99), .unset, .unset, .unset, .unset, .unset, .unset] [])) _
      refine XS.aload X674.here hx rfl (hb hby at_246) rfl rfl ?_
      refine XS.aload X674.here hx rfl (hb hby at_248) rfl rfl ?_
      show Steps p.tables e below (T674.setTop (mkF m 250 #[.val (.long q0), .second, .val (.long q1), .second, .val (.long q2), .second, .val (.long q3), .second, .val (.int p4), .val (.ref b101), .val (.ref b111), .val (.ref b127), .val (.ref b149), .val (.int v5), .val (.int (3 : Int32)), .val (.ref b178), .val (.int (0 : Int32)), .val (.int (1 : Int32)), .val (.int (2 : Int32)), .val (.int (1 : Int32)), .val (.int v98), .val (.int v99), .unset, .unset, .unset, .unset, .unset, .unset] [(.ref b127), (.ref b178)])) _
      refine st675.trans ?_
      show Steps p.tables e below (T675.setTop (mkF m 253 #[.val (.long q0), .second, .val (.long q1), .second, .val (.long q2), .second, .val (.long q3), .second, .val (.int p4), .val (.ref b101), .val (.ref b111), .val (.ref b127), .val (.ref b149), .val (.int v5), .val (.int (3 : Int32)), .val (.ref b178), .val (.int (0 : Int32)), .val (.int (1 : Int32)), .val (.int (2 : Int32)), .val (.int (1 : Int32)), .val (.int v98), .val (.int v99), .unset, .unset, .unset, .unset, .unset, .unset] [(.int (if v5 = (2 : Int32) then (-1 : Int32) else (2 : Int32)))])) _
      rw [← hv100]
      show Steps p.tables e below (T675.setTop (mkF m 253 #[.val (.long q0), .second, .val (.long q1), .second, .val (.long q2), .second, .val (.long q3), .second, .val (.int p4), .val (.ref b101), .val (.ref b111), .val (.ref b127), .val (.ref b149), .val (.int v5), .val (.int (3 : Int32)), .val (.ref b178), .val (.int (0 : Int32)), .val (.int (1 : Int32)), .val (.int (2 : Int32)), .val (.int (1 : Int32)), .val (.int v98), .val (.int v99), .unset, .unset, .unset, .unset, .unset, .unset] [(.int v100)])) _
      refine XS.istore X675.here hx rfl (hb hby at_253) rfl (l' := #[.val (.long q0), .second, .val (.long q1), .second, .val (.long q2), .second, .val (.long q3), .second, .val (.int p4), .val (.ref b101), .val (.ref b111), .val (.ref b127), .val (.ref b149), .val (.int v5), .val (.int (3 : Int32)), .val (.ref b178), .val (.int (0 : Int32)), .val (.int (1 : Int32)), .val (.int (2 : Int32)), .val (.int (1 : Int32)), .val (.int v98), .val (.int v99), .val (.int v100), .unset, .unset, .unset, .unset, .unset]) rfl ?_
      show Steps p.tables e below (T675.setTop (mkF m 255 #[.val (.long q0), .second, .val (.long q1), .second, .val (.long q2), .second, .val (.long q3), .second, .val (.int p4), .val (.ref b101), .val (.ref b111), .val (.ref b127), .val (.ref b149), .val (.int v5), .val (.int (3 : Int32)), .val (.ref b178), .val (.int (0 : Int32)), .val (.int (1 : Int32)), .val (.int (2 : Int32)), .val (.int (1 : Int32)), .val (.int v98), .val (.int v99), .val (.int v100), .unset, .unset, .unset, .unset, .unset] [])) _
      refine XS.iload X675.here hx rfl (hb hby at_255) rfl ?_
      refine XS.ifNo X675.here hx rfl (hb hby at_257) rfl ((if0 _ _).trans (feq (by decide : ¬ ((1 : Int32) = (0 : Int32)))).1) ?_
      show Steps p.tables e below (T675.setTop (mkF m 260 #[.val (.long q0), .second, .val (.long q1), .second, .val (.long q2), .second, .val (.long q3), .second, .val (.int p4), .val (.ref b101), .val (.ref b111), .val (.ref b127), .val (.ref b149), .val (.int v5), .val (.int (3 : Int32)), .val (.ref b178), .val (.int (0 : Int32)), .val (.int (1 : Int32)), .val (.int (2 : Int32)), .val (.int (1 : Int32)), .val (.int v98), .val (.int v99), .val (.int v100), .unset, .unset, .unset, .unset, .unset] [])) _
      refine XS.iload X675.here hx rfl (hb hby at_260) rfl ?_
      show Steps p.tables e below (T675.setTop (mkF m 262 #[.val (.long q0), .second, .val (.long q1), .second, .val (.long q2), .second, .val (.long q3), .second, .val (.int p4), .val (.ref b101), .val (.ref b111), .val (.ref b127), .val (.ref b149), .val (.int v5), .val (.int (3 : Int32)), .val (.ref b178), .val (.int (0 : Int32)), .val (.int (1 : Int32)), .val (.int (2 : Int32)), .val (.int (1 : Int32)), .val (.int v98), .val (.int v99), .val (.int v100), .unset, .unset, .unset, .unset, .unset] [(.int v5)])) _
      refine st678 _ ?_
      show Steps p.tables e below (T678.setTop (mkF m 270 #[.val (.long q0), .second, .val (.long q1), .second, .val (.long q2), .second, .val (.long q3), .second, .val (.int p4), .val (.ref b101), .val (.ref b111), .val (.ref b127), .val (.ref b149), .val (.int v5), .val (.int (3 : Int32)), .val (.ref b178), .val (.int (0 : Int32)), .val (.int (1 : Int32)), .val (.int (2 : Int32)), .val (.int (1 : Int32)), .val (.int v98), .val (.int v99), .val (.int v100), .unset, .unset, .unset, .unset, .unset] [(.int v98)])) _
      refine XS.istore X678.here hx rfl (hb hby at_270) rfl (l' := #[.val (.long q0), .second, .val (.long q1), .second, .val (.long q2), .second, .val (.long q3), .second, .val (.int p4), .val (.ref b101), .val (.ref b111), .val (.ref b127), .val (.ref b149), .val (.int v5), .val (.int (3 : Int32)), .val (.ref b178), .val (.int (0 : Int32)), .val (.int (1 : Int32)), .val (.int (2 : Int32)), .val (.int (1 : Int32)), .val (.int v98), .val (.int v99), .val (.int v100), .val (.int v98), .unset, .unset, .unset, .unset]) rfl ?_
      show Steps p.tables e below (T678.setTop (mkF m 272 #[.val (.long q0), .second, .val (.long q1), .second, .val (.long q2), .second, .val (.long q3), .second, .val (.int p4), .val (.ref b101), .val (.ref b111), .val (.ref b127), .val (.ref b149), .val (.int v5), .val (.int (3 : Int32)), .val (.ref b178), .val (.int (0 : Int32)), .val (.int (1 : Int32)), .val (.int (2 : Int32)), .val (.int (1 : Int32)), .val (.int v98), .val (.int v99), .val (.int v100), .val (.int v98), .unset, .unset, .unset, .unset] [])) _
      refine XS.iload X678.here hx rfl (hb hby at_272) rfl ?_
      refine XS.ifNo X678.here hx rfl (hb hby at_274) rfl ((if0 _ _).trans (feq (by decide : ¬ ((1 : Int32) = (0 : Int32)))).1) ?_
      show Steps p.tables e below (T678.setTop (mkF m 277 #[.val (.long q0), .second, .val (.long q1), .second, .val (.long q2), .second, .val (.long q3), .second, .val (.int p4), .val (.ref b101), .val (.ref b111), .val (.ref b127), .val (.ref b149), .val (.int v5), .val (.int (3 : Int32)), .val (.ref b178), .val (.int (0 : Int32)), .val (.int (1 : Int32)), .val (.int (2 : Int32)), .val (.int (1 : Int32)), .val (.int v98), .val (.int v99), .val (.int v100), .val (.int v98), .unset, .unset, .unset, .unset] [])) _
      refine XS.iload X678.here hx rfl (hb hby at_277) rfl ?_
      refine XS.iconst X678.here hx rfl (hb hby at_279) ?_
      show Steps p.tables e below (T678.setTop (mkF m 280 #[.val (.long q0), .second, .val (.long q1), .second, .val (.long q2), .second, .val (.long q3), .second, .val (.int p4), .val (.ref b101), .val (.ref b111), .val (.ref b127), .val (.ref b149), .val (.int v5), .val (.int (3 : Int32)), .val (.ref b178), .val (.int (0 : Int32)), .val (.int (1 : Int32)), .val (.int (2 : Int32)), .val (.int (1 : Int32)), .val (.int v98), .val (.int v99), .val (.int v100), .val (.int v98), .unset, .unset, .unset, .unset] [(.int (1 : Int32)), (.int v5)])) _
      refine st681 _ ?_
      show Steps p.tables e below (T681.setTop (mkF m 288 #[.val (.long q0), .second, .val (.long q1), .second, .val (.long q2), .second, .val (.long q3), .second, .val (.int p4), .val (.ref b101), .val (.ref b111), .val (.ref b127), .val (.ref b149), .val (.int v5), .val (.int (3 : Int32)), .val (.ref b178), .val (.int (0 : Int32)), .val (.int (1 : Int32)), .val (.int (2 : Int32)), .val (.int (1 : Int32)), .val (.int v98), .val (.int v99), .val (.int v100), .val (.int v98), .unset, .unset, .unset, .unset] [(.int v99)])) _
      refine XS.istore X681.here hx rfl (hb hby at_288) rfl (l' := #[.val (.long q0), .second, .val (.long q1), .second, .val (.long q2), .second, .val (.long q3), .second, .val (.int p4), .val (.ref b101), .val (.ref b111), .val (.ref b127), .val (.ref b149), .val (.int v5), .val (.int (3 : Int32)), .val (.ref b178), .val (.int (0 : Int32)), .val (.int (1 : Int32)), .val (.int (2 : Int32)), .val (.int (1 : Int32)), .val (.int v98), .val (.int v99), .val (.int v100), .val (.int v98), .val (.int v99), .unset, .unset, .unset]) rfl ?_
      show Steps p.tables e below (T681.setTop (mkF m 290 #[.val (.long q0), .second, .val (.long q1), .second, .val (.long q2), .second, .val (.long q3), .second, .val (.int p4), .val (.ref b101), .val (.ref b111), .val (.ref b127), .val (.ref b149), .val (.int v5), .val (.int (3 : Int32)), .val (.ref b178), .val (.int (0 : Int32)), .val (.int (1 : Int32)), .val (.int (2 : Int32)), .val (.int (1 : Int32)), .val (.int v98), .val (.int v99), .val (.int v100), .val (.int v98), .val (.int v99), .unset, .unset, .unset] [])) _
      refine XS.iload X681.here hx rfl (hb hby at_290) rfl ?_
      refine XS.ifNo X681.here hx rfl (hb hby at_292) rfl ((if0 _ _).trans (feq (by decide : ¬ ((1 : Int32) = (0 : Int32)))).1) ?_
      show Steps p.tables e below (T681.setTop (mkF m 295 #[.val (.long q0), .second, .val (.long q1), .second, .val (.long q2), .second, .val (.long q3), .second, .val (.int p4), .val (.ref b101), .val (.ref b111), .val (.ref b127), .val (.ref b149), .val (.int v5), .val (.int (3 : Int32)), .val (.ref b178), .val (.int (0 : Int32)), .val (.int (1 : Int32)), .val (.int (2 : Int32)), .val (.int (1 : Int32)), .val (.int v98), .val (.int v99), .val (.int v100), .val (.int v98), .val (.int v99), .unset, .unset, .unset] [])) _
      refine XS.iload X681.here hx rfl (hb hby at_295) rfl ?_
      refine XS.iconst X681.here hx rfl (hb hby at_297) ?_
      show Steps p.tables e below (T681.setTop (mkF m 298 #[.val (.long q0), .second, .val (.long q1), .second, .val (.long q2), .second, .val (.long q3), .second, .val (.int p4), .val (.ref b101), .val (.ref b111), .val (.ref b127), .val (.ref b149), .val (.int v5), .val (.int (3 : Int32)), .val (.ref b178), .val (.int (0 : Int32)), .val (.int (1 : Int32)), .val (.int (2 : Int32)), .val (.int (1 : Int32)), .val (.int v98), .val (.int v99), .val (.int v100), .val (.int v98), .val (.int v99), .unset, .unset, .unset] [(.int (2 : Int32)), (.int v5)])) _
      refine st684 _ ?_
      show Steps p.tables e below (T684.setTop (mkF m 306 #[.val (.long q0), .second, .val (.long q1), .second, .val (.long q2), .second, .val (.long q3), .second, .val (.int p4), .val (.ref b101), .val (.ref b111), .val (.ref b127), .val (.ref b149), .val (.int v5), .val (.int (3 : Int32)), .val (.ref b178), .val (.int (0 : Int32)), .val (.int (1 : Int32)), .val (.int (2 : Int32)), .val (.int (1 : Int32)), .val (.int v98), .val (.int v99), .val (.int v100), .val (.int v98), .val (.int v99), .unset, .unset, .unset] [(.int v100)])) _
      refine XS.istore X684.here hx rfl (hb hby at_306) rfl (l' := #[.val (.long q0), .second, .val (.long q1), .second, .val (.long q2), .second, .val (.long q3), .second, .val (.int p4), .val (.ref b101), .val (.ref b111), .val (.ref b127), .val (.ref b149), .val (.int v5), .val (.int (3 : Int32)), .val (.ref b178), .val (.int (0 : Int32)), .val (.int (1 : Int32)), .val (.int (2 : Int32)), .val (.int (1 : Int32)), .val (.int v98), .val (.int v99), .val (.int v100), .val (.int v98), .val (.int v99), .val (.int v100), .unset, .unset]) rfl ?_
      show Steps p.tables e below (T684.setTop (mkF m 308 #[.val (.long q0), .second, .val (.long q1), .second, .val (.long q2), .second, .val (.long q3), .second, .val (.int p4), .val (.ref b101), .val (.ref b111), .val (.ref b127), .val (.ref b149), .val (.int v5), .val (.int (3 : Int32)), .val (.ref b178), .val (.int (0 : Int32)), .val (.int (1 : Int32)), .val (.int (2 : Int32)), .val (.int (1 : Int32)), .val (.int v98), .val (.int v99), .val (.int v100), .val (.int v98), .val (.int v99), .val (.int v100), .unset, .unset] [])) _
      refine XS.aload X684.here hx rfl (hb hby at_308) rfl rfl ?_
      refine XS.aload X684.here hx rfl (hb hby at_310) rfl rfl ?_
      show Steps p.tables e below (T684.setTop (mkF m 312 #[.val (.long q0), .second, .val (.long q1), .second, .val (.long q2), .second, .val (.long q3), .second, .val (.int p4), .val (.ref b101), .val (.ref b111), .val (.ref b127), .val (.ref b149), .val (.int v5), .val (.int (3 : Int32)), .val (.ref b178), .val (.int (0 : Int32)), .val (.int (1 : Int32)), .val (.int (2 : Int32)), .val (.int (1 : Int32)), .val (.int v98), .val (.int v99), .val (.int v100), .val (.int v98), .val (.int v99), .val (.int v100), .unset, .unset] [(.ref b149), (.ref b178)])) _
      refine st685.trans ?_
      show Steps p.tables e below (T685.setTop (mkF m 315 #[.val (.long q0), .second, .val (.long q1), .second, .val (.long q2), .second, .val (.long q3), .second, .val (.int p4), .val (.ref b101), .val (.ref b111), .val (.ref b127), .val (.ref b149), .val (.int v5), .val (.int (3 : Int32)), .val (.ref b178), .val (.int (0 : Int32)), .val (.int (1 : Int32)), .val (.int (2 : Int32)), .val (.int (1 : Int32)), .val (.int v98), .val (.int v99), .val (.int v100), .val (.int v98), .val (.int v99), .val (.int v100), .unset, .unset] [(.int (v97 0))])) _
      rw [← hv109]
      show Steps p.tables e below (T685.setTop (mkF m 315 #[.val (.long q0), .second, .val (.long q1), .second, .val (.long q2), .second, .val (.long q3), .second, .val (.int p4), .val (.ref b101), .val (.ref b111), .val (.ref b127), .val (.ref b149), .val (.int v5), .val (.int (3 : Int32)), .val (.ref b178), .val (.int (0 : Int32)), .val (.int (1 : Int32)), .val (.int (2 : Int32)), .val (.int (1 : Int32)), .val (.int v98), .val (.int v99), .val (.int v100), .val (.int v98), .val (.int v99), .val (.int v100), .unset, .unset] [(.int v109)])) _
      refine XS.istore X685.here hx rfl (hb hby at_315) rfl (l' := #[.val (.long q0), .second, .val (.long q1), .second, .val (.long q2), .second, .val (.long q3), .second, .val (.int p4), .val (.ref b101), .val (.ref b111), .val (.ref b127), .val (.ref b149), .val (.int v5), .val (.int (3 : Int32)), .val (.ref b178), .val (.int (0 : Int32)), .val (.int (1 : Int32)), .val (.int (2 : Int32)), .val (.int (1 : Int32)), .val (.int v98), .val (.int v99), .val (.int v100), .val (.int v98), .val (.int v99), .val (.int v100), .val (.int v109), .unset]) rfl ?_
      show Steps p.tables e below (T685.setTop (mkF m 317 #[.val (.long q0), .second, .val (.long q1), .second, .val (.long q2), .second, .val (.long q3), .second, .val (.int p4), .val (.ref b101), .val (.ref b111), .val (.ref b127), .val (.ref b149), .val (.int v5), .val (.int (3 : Int32)), .val (.ref b178), .val (.int (0 : Int32)), .val (.int (1 : Int32)), .val (.int (2 : Int32)), .val (.int (1 : Int32)), .val (.int v98), .val (.int v99), .val (.int v100), .val (.int v98), .val (.int v99), .val (.int v100), .val (.int v109), .unset] [])) _
      refine XS.iload X685.here hx rfl (hb hby at_317) rfl ?_
      refine XS.ifNo X685.here hx rfl (hb hby at_319) rfl ((if0 _ _).trans (feq (by decide : ¬ ((1 : Int32) = (0 : Int32)))).1) ?_
      show Steps p.tables e below (T685.setTop (mkF m 322 #[.val (.long q0), .second, .val (.long q1), .second, .val (.long q2), .second, .val (.long q3), .second, .val (.int p4), .val (.ref b101), .val (.ref b111), .val (.ref b127), .val (.ref b149), .val (.int v5), .val (.int (3 : Int32)), .val (.ref b178), .val (.int (0 : Int32)), .val (.int (1 : Int32)), .val (.int (2 : Int32)), .val (.int (1 : Int32)), .val (.int v98), .val (.int v99), .val (.int v100), .val (.int v98), .val (.int v99), .val (.int v100), .val (.int v109), .unset] [])) _
      refine XS.iload X685.here hx rfl (hb hby at_322) rfl ?_
      refine XS.goto X685.here hx rfl (pc0 := 324) (pc' := 328) rfl (hb hby at_324) (by decide) (by decide) ?_
      show Steps p.tables e below (T685.setTop (mkF m 328 #[.val (.long q0), .second, .val (.long q1), .second, .val (.long q2), .second, .val (.long q3), .second, .val (.int p4), .val (.ref b101), .val (.ref b111), .val (.ref b127), .val (.ref b149), .val (.int v5), .val (.int (3 : Int32)), .val (.ref b178), .val (.int (0 : Int32)), .val (.int (1 : Int32)), .val (.int (2 : Int32)), .val (.int (1 : Int32)), .val (.int v98), .val (.int v99), .val (.int v100), .val (.int v98), .val (.int v99), .val (.int v100), .val (.int v109), .unset] [(.int v5)])) _
      refine XS.istore X685.here hx rfl (hb hby at_328) rfl (l' := #[.val (.long q0), .second, .val (.long q1), .second, .val (.long q2), .second, .val (.long q3), .second, .val (.int p4), .val (.ref b101), .val (.ref b111), .val (.ref b127), .val (.ref b149), .val (.int v5), .val (.int (3 : Int32)), .val (.ref b178), .val (.int (0 : Int32)), .val (.int (1 : Int32)), .val (.int (2 : Int32)), .val (.int (1 : Int32)), .val (.int v98), .val (.int v99), .val (.int v100), .val (.int v98), .val (.int v99), .val (.int v100), .val (.int v109), .val (.int v5)]) rfl ?_
      show Steps p.tables e below (T685.setTop (mkF m 330 #[.val (.long q0), .second, .val (.long q1), .second, .val (.long q2), .second, .val (.long q3), .second, .val (.int p4), .val (.ref b101), .val (.ref b111), .val (.ref b127), .val (.ref b149), .val (.int v5), .val (.int (3 : Int32)), .val (.ref b178), .val (.int (0 : Int32)), .val (.int (1 : Int32)), .val (.int (2 : Int32)), .val (.int (1 : Int32)), .val (.int v98), .val (.int v99), .val (.int v100), .val (.int v98), .val (.int v99), .val (.int v100), .val (.int v109), .val (.int v5)] [])) _
      refine XS.iload X685.here hx rfl (hb hby at_330) rfl ?_
      refine XS.iload X685.here hx rfl (hb hby at_332) rfl ?_
      refine XS.icmpNo X685.here hx rfl (hb hby at_334) rfl (teq (rfl : v98 = v98)).2 ?_
      show Steps p.tables e below (T685.setTop (mkF m 337 #[.val (.long q0), .second, .val (.long q1), .second, .val (.long q2), .second, .val (.long q3), .second, .val (.int p4), .val (.ref b101), .val (.ref b111), .val (.ref b127), .val (.ref b149), .val (.int v5), .val (.int (3 : Int32)), .val (.ref b178), .val (.int (0 : Int32)), .val (.int (1 : Int32)), .val (.int (2 : Int32)), .val (.int (1 : Int32)), .val (.int v98), .val (.int v99), .val (.int v100), .val (.int v98), .val (.int v99), .val (.int v100), .val (.int v109), .val (.int v5)] [])) _
      refine XS.iload X685.here hx rfl (hb hby at_337) rfl ?_
      refine XS.iload X685.here hx rfl (hb hby at_339) rfl ?_
      refine XS.icmpNo X685.here hx rfl (hb hby at_341) rfl (teq (rfl : v99 = v99)).2 ?_
      show Steps p.tables e below (T685.setTop (mkF m 344 #[.val (.long q0), .second, .val (.long q1), .second, .val (.long q2), .second, .val (.long q3), .second, .val (.int p4), .val (.ref b101), .val (.ref b111), .val (.ref b127), .val (.ref b149), .val (.int v5), .val (.int (3 : Int32)), .val (.ref b178), .val (.int (0 : Int32)), .val (.int (1 : Int32)), .val (.int (2 : Int32)), .val (.int (1 : Int32)), .val (.int v98), .val (.int v99), .val (.int v100), .val (.int v98), .val (.int v99), .val (.int v100), .val (.int v109), .val (.int v5)] [])) _
      refine XS.iload X685.here hx rfl (hb hby at_344) rfl ?_
      refine XS.iload X685.here hx rfl (hb hby at_346) rfl ?_
      refine XS.icmpNo X685.here hx rfl (hb hby at_348) rfl (teq (rfl : v100 = v100)).2 ?_
      show Steps p.tables e below (T685.setTop (mkF m 351 #[.val (.long q0), .second, .val (.long q1), .second, .val (.long q2), .second, .val (.long q3), .second, .val (.int p4), .val (.ref b101), .val (.ref b111), .val (.ref b127), .val (.ref b149), .val (.int v5), .val (.int (3 : Int32)), .val (.ref b178), .val (.int (0 : Int32)), .val (.int (1 : Int32)), .val (.int (2 : Int32)), .val (.int (1 : Int32)), .val (.int v98), .val (.int v99), .val (.int v100), .val (.int v98), .val (.int v99), .val (.int v100), .val (.int v109), .val (.int v5)] [])) _
      refine XS.iload X685.here hx rfl (hb hby at_351) rfl ?_
      refine XS.iload X685.here hx rfl (hb hby at_353) rfl ?_
      refine XS.icmpNo X685.here hx rfl (hb hby at_355) rfl (teq (by rw [hv109, hv97]; rfl)).2 ?_
      show Steps p.tables e below (T685.setTop (mkF m 358 #[.val (.long q0), .second, .val (.long q1), .second, .val (.long q2), .second, .val (.long q3), .second, .val (.int p4), .val (.ref b101), .val (.ref b111), .val (.ref b127), .val (.ref b149), .val (.int v5), .val (.int (3 : Int32)), .val (.ref b178), .val (.int (0 : Int32)), .val (.int (1 : Int32)), .val (.int (2 : Int32)), .val (.int (1 : Int32)), .val (.int v98), .val (.int v99), .val (.int v100), .val (.int v98), .val (.int v99), .val (.int v100), .val (.int v109), .val (.int v5)] [])) _
      refine XS.iconst X685.here hx rfl (hb hby at_358) ?_
      refine XS.goto X685.here hx rfl (pc0 := 359) (pc' := 363) rfl (hb hby at_359) (by decide) (by decide) ?_
      exact kt
    refine own_go hgo702 ?_
    exact own_retZ X685 hx Bd.returns Bd.notSynchronized (hb hby at_363) (by decide) (by decide) (Or.inr (rfl : (1 : Int32) = 1)) ⟨by rw [(rfl : (1 : Int32) = 1)], N685⟩
set_option maxRecDepth 65536 in
set_option maxHeartbeats 40000000 in
theorem comes_1 {Post : Tables → Env → Array Value → State → Outcome → State → Prop} (hpost : ∀ tb e args s v u, (limb_1_1.after args s (.returned v) u = true ∧ limb_1_2.after args s (.returned v) u = true ∧ True) → FrameEnd s (.returned v) u (Jvm.fieldLocs frame_1_writes args s ++ Jvm.arrayLocs frame_1_arrays args s ++ Jvm.staticLocs frame_1_statics s) 32 384 → Post tb e args s (.returned v) u) :
    ArmFor flags0 classFile x code maxLocals ret World_1 tables_1 room_1 Calls_1 rest_1 Pre_1 Post := by
  intro l hfl _ _ p e ha hc hk s m args below hf hA hF happ hP
  obtain ⟨hcalls, hrest, hpre⟩ := hP
  obtain ⟨-, -, -, hnamed, -, -, -, hat⟩ := (Spec.applies_iff hf).mp happ
  obtain ⟨hg, hn⟩ := and_e (Cond.before_iff.mp (show (Jvm.Cond.and given_1 narrow_1).before args s = true from hpre))
  obtain ⟨gg1, gg2⟩ := and_e hg
  obtain ⟨gg3, gg4⟩ := and_e gg2
  obtain ⟨gg5, gg6⟩ := and_e gg4
  obtain ⟨gg7, gg8⟩ := and_e gg6
  obtain ⟨gg9, gg10⟩ := and_e gg8
  obtain ⟨w0, w1, w2, w3, w4, rfl⟩ : ∃ w0 w1 w2 w3 w4 : Value, args = #[w0, w1, w2, w3, w4] := by
    have hs : args.size = 5 := by simpa [Cond.value, given_1] using gg1
    obtain ⟨L⟩ := args
    match L, hs with
    | [w0, w1, w2, w3, w4], _ => exact ⟨w0, w1, w2, w3, w4, rfl⟩
  have hw := fun d (hd : d ∈ tables_1) => atoms_spec (ws := Jvm.Cond.code x code maxLocals ret :: tables_1) hat d (List.mem_cons_of_mem _ hd)
  have hfit : Fit s := fun {y c} hc i hi => by
    obtain ⟨ha, rfl⟩ := Array.getElem?_eq_some_iff.mp hc
    have q := List.all_eq_true.mp ((Array.all_eq_true_iff_forall_mem.mp hF) _ (Array.getElem_mem ha)) i (List.mem_range.mpr hi)
    simpa [Array.getElem?_eq_getElem hi] using q
  obtain ⟨i0, ei0⟩ := isL_v gg3
  obtain rfl : w0 = (.long i0) := Option.some.inj ei0
  obtain ⟨i1, ei1⟩ := isL_v gg5
  obtain rfl : w1 = (.long i1) := Option.some.inj ei1
  obtain ⟨i2, ei2⟩ := isL_v gg7
  obtain rfl : w2 = (.long i2) := Option.some.inj ei2
  obtain ⟨i3, ei3⟩ := isL_v gg9
  obtain rfl : w3 = (.long i3) := Option.some.inj ei3
  obtain ⟨i4, ei4⟩ := is_v gg10
  obtain rfl : w4 = (.int i4) := Option.some.inj ei4
  obtain ⟨n, o, h1, h2, h3, _, L, rfl, ⟨rfl, N⟩, hq⟩ := rm0 l s _ hw tables_1 i0 i1 i2 i3 i4 s.heap s.heap.size (Nat.le_refl _)  p e ha hc hk s m _ below hf ((Spec.applies_iff_loose hf).mp happ).1 ⟨rfl, State.Warmed39.refl s, rfl⟩ trivial
  refine ⟨n, _, h1, h2, h3, hpost _ _ _ _ _ _ ⟨Cond.after_iff.mpr rfl, Cond.after_iff.mpr (eq_i res_at (Term.int_eval (1)) rfl), trivial⟩ ⟨hq.1, hq.2.1, (hq.2.2.sift fun y hy => Or.inr (N y hy)).mono (by decide) (by decide)⟩⟩
theorem main_1_1 : Claimed_1_1 := comes_1 fun _ _ _ _ _ _ h hF => ⟨h.1, hF⟩
theorem main_1_2 : Claimed_1_2 := comes_1 fun _ _ _ _ _ _ h hF => ⟨h.2.1, hF⟩
end Jvm.Pilot.@@N@@
namespace Jvm.Pilot.@@N@@
open Jvm Jvm.ClassFile Sem Op Lib Jvm.Free Jvm.Stand Jvm.Pilot.@@N@@.Jvm.D
/-! MADE BY PROGRAM (witnessworld.py) out of the Statement's table words and the real class files: 20 classes; the members and pool entries that the words name. The judged class is class 1, her method 1. -/
namespace start1
open Jvm.ClassFile
def u (s : String) : CpInfo := .utf8 (stringToUtf16 s)
/-- a pool by its gaps: so many unusable entries, then the entry; so many at the end -/
def gap : Nat → List CpInfo → List CpInfo
  | 0, r => r
  | n + 1, r => .unusable :: gap n r
def poolList (es : List (Nat × CpInfo)) (last : Nat) : List CpInfo := es.foldr (fun e r => gap e.1 (e.2 :: r)) (gap last [])
def pool (es : List (Nat × CpInfo)) (last : Nat) : Array CpInfo := ⟨poolList es last⟩
def fileOf (pool : Array CpInfo) (this : Nat) (attrs : Array Attribute := #[]) (ms : Array MethodInfo := #[]) (fl : Nat := 33) (sup : Nat := 0) (ifs : Array Nat := #[]) (fds : Array FieldInfo := #[]) : ClassFile where
  minorVersion := 0
  majorVersion := 65
  constantPool := pool
  accessFlags := fl
  thisClass := this
  superClass := sup
  interfaces := ifs
  fields := fds
  methods := ms
  attributes := attrs
def plain (name : String) (sup : Option ClassId) : Class where
  name := name
  kind := .ordinary
  loader := none
  accessFlags := 33
  super := sup
  interfaces := #[]
  cf := none
  fields := #[]
  methods := #[]
  instanceTypes := #[]
  staticTypes := #[]
  resolved := #[]
  callSites := []
  init := .initialized
  statics := none
  mirror := none

def pool0 : Array CpInfo := pool [(5, u "<init>"), (0, u "()V"), (1, .class_ 10), (1, u "java/lang/Object")] 113

def k0c0 : Code := { maxStack := 0, maxLocals := 1, code := object_method_1_code, exceptionTable := #[], attributes := #[] }
def k0m0 : Method := { name := "<init>", desc := "()V", sig := { parameters := [], returnType := none }, accessFlags := 1, code := some k0c0 }
/-- java/lang/Object -/
def k0 : Class := { plain "java/lang/Object" none with
  accessFlags := 33
  interfaces := #[]
  cf := some (fileOf pool0 8 #[] #[{ accessFlags := 1, nameIndex := 5, descriptorIndex := 6, attributes := #[] }] 33 0 #[] #[])
  fields := #[]
  methods := #[k0m0]
  instanceTypes := #[]
  staticTypes := #[]
  resolved := Array.replicate 124 none
  statics := none }

def pool1 : Array CpInfo := pool [(2, .class_ 4), (1, u "java/lang/Object"), (0, u "<init>"), (0, u "()V"), (0, .class_ 8), (0, u "com/example/upper_falls/upperfalls/KeyHash"), (0, .long 18446744073709551584), (1, .methodref 12 13), (0, .class_ 14), (0, .nameAndType 15 16), (0, u "com/example/upper_falls/upperfalls/HeldKeysReleasePinLaw"), (0, u "home"), (0, u "(II)J"), (0, .methodref 7 18), (0, .nameAndType 5 19), (0, u "(JJ)V"), (0, .long 2), (1, .long 3), (1, .class_ 25), (0, u "com/example/upper_falls/upperfalls/HeldKeys"), (0, .methodref 24 27), (0, .nameAndType 5 28), (0, u "(I)V"), (0, .methodref 24 30), (0, .nameAndType 31 32), (0, u "hold"), (0, u "(Lcom/example/upper_falls/upperfalls/KeyHash;)I"), (0, .methodref 24 34), (0, .nameAndType 35 28), (0, u "release"), (0, .methodref 24 37), (0, .nameAndType 38 32), (0, u "find"), (2, u "law"), (0, u "(JJJJI)Z")] 3

def k1m0 : Method := { name := "<init>", desc := "()V", sig := { parameters := [], returnType := none }, accessFlags := 1, code := none }
def k1c1 : Code := { maxStack := 6, maxLocals := 28, code := code, exceptionTable := #[], attributes := #[] }
def k1m1 : Method := { name := "law", desc := "(JJJJI)Z", sig := { parameters := [.long, .long, .long, .long, .int], returnType := some .boolean }, accessFlags := 9, code := some k1c1 }
def k1c2 : Code := { maxStack := 2, maxLocals := 2, code := method_3_code, exceptionTable := #[], attributes := #[] }
def k1m2 : Method := { name := "home", desc := "(II)J", sig := { parameters := [.int, .int], returnType := some .long }, accessFlags := 10, code := some k1c2 }
/-- com/example/upper_falls/upperfalls/HeldKeysReleasePinLaw -/
def k1 : Class := { plain "com/example/upper_falls/upperfalls/HeldKeysReleasePinLaw" (some 0) with
  accessFlags := 49
  interfaces := #[]
  cf := some (fileOf pool1 12 #[] #[{ accessFlags := 1, nameIndex := 5, descriptorIndex := 6, attributes := #[] }, { accessFlags := 9, nameIndex := 41, descriptorIndex := 42, attributes := #[] }, { accessFlags := 10, nameIndex := 15, descriptorIndex := 16, attributes := #[] }] 49 2 #[] #[])
  fields := #[]
  methods := #[k1m0, k1m1, k1m2]
  instanceTypes := #[]
  staticTypes := #[]
  resolved := Array.replicate 46 none
  statics := none }

def pool2 : Array CpInfo := pool [(1, .methodref 2 3), (0, .class_ 4), (0, .nameAndType 5 6), (0, u "java/lang/Object"), (0, u "<init>"), (0, u "()V"), (0, .class_ 8), (0, u "java/lang/Record")] 13

def k2c0 : Code := { maxStack := 1, maxLocals := 1, code := jdk_30_method_1_code, exceptionTable := #[], attributes := #[] }
def k2m0 : Method := { name := "<init>", desc := "()V", sig := { parameters := [], returnType := none }, accessFlags := 4, code := some k2c0 }
/-- java/lang/Record -/
def k2 : Class := { plain "java/lang/Record" (some 0) with
  accessFlags := 1057
  interfaces := #[]
  cf := some (fileOf pool2 7 #[] #[{ accessFlags := 4, nameIndex := 5, descriptorIndex := 6, attributes := #[] }] 1057 2 #[] #[])
  fields := #[]
  methods := #[k2m0]
  instanceTypes := #[]
  staticTypes := #[]
  resolved := Array.replicate 22 none
  statics := none }

def pool3 : Array CpInfo := pool [(1, .methodref 2 3), (0, .class_ 4), (0, .nameAndType 5 6), (0, u "java/lang/Record"), (0, u "<init>"), (0, u "()V"), (0, .fieldref 8 9), (0, .class_ 10), (0, .nameAndType 11 12), (0, u "com/example/upper_falls/upperfalls/KeyHash"), (0, u "h1"), (0, u "J"), (0, .fieldref 8 14), (0, .nameAndType 15 12), (0, u "h2"), (8, u "LITTLE_ENDIAN_LONG"), (0, u "Ljava/lang/invoke/VarHandle;"), (34, u "(JJ)V"), (38, u "C1"), (1, u "C2"), (0, u "BLOCK_BYTES"), (0, u "I"), (12, u "()J")] 20

def k3c0 : Code := { maxStack := 3, maxLocals := 5, code := prog_15_method_1_code, exceptionTable := #[], attributes := #[] }
def k3m0 : Method := { name := "<init>", desc := "(JJ)V", sig := { parameters := [.long, .long], returnType := none }, accessFlags := 0, code := some k3c0 }
def k3c1 : Code := { maxStack := 2, maxLocals := 1, code := prog_15_method_10_code, exceptionTable := #[], attributes := #[] }
def k3m1 : Method := { name := "h1", desc := "()J", sig := { parameters := [], returnType := some .long }, accessFlags := 1, code := some k3c1 }
def k3c2 : Code := { maxStack := 2, maxLocals := 1, code := prog_15_method_11_code, exceptionTable := #[], attributes := #[] }
def k3m2 : Method := { name := "h2", desc := "()J", sig := { parameters := [], returnType := some .long }, accessFlags := 1, code := some k3c2 }
/-- com/example/upper_falls/upperfalls/KeyHash -/
def k3 : Class := { plain "com/example/upper_falls/upperfalls/KeyHash" (some 2) with
  accessFlags := 48
  interfaces := #[]
  cf := some (fileOf pool3 8 #[] #[{ accessFlags := 0, nameIndex := 5, descriptorIndex := 60, attributes := #[] }, { accessFlags := 1, nameIndex := 11, descriptorIndex := 116, attributes := #[] }, { accessFlags := 1, nameIndex := 15, descriptorIndex := 116, attributes := #[] }] 48 2 #[] #[{ accessFlags := 18, nameIndex := 11, descriptorIndex := 12, attributes := #[] }, { accessFlags := 18, nameIndex := 15, descriptorIndex := 12, attributes := #[] }, { accessFlags := 26, nameIndex := 24, descriptorIndex := 25, attributes := #[] }, { accessFlags := 26, nameIndex := 99, descriptorIndex := 12, attributes := #[] }, { accessFlags := 26, nameIndex := 101, descriptorIndex := 12, attributes := #[] }, { accessFlags := 26, nameIndex := 102, descriptorIndex := 103, attributes := #[] }])
  fields := #[{ name := "h1", type := .long, accessFlags := 18, slot := 0, constantValue := 0 }, { name := "h2", type := .long, accessFlags := 18, slot := 1, constantValue := 0 }, { name := "LITTLE_ENDIAN_LONG", type := (.object "java/lang/invoke/VarHandle"), accessFlags := 26, slot := 0, constantValue := 0 }, { name := "C1", type := .long, accessFlags := 26, slot := 1, constantValue := 0 }, { name := "C2", type := .long, accessFlags := 26, slot := 2, constantValue := 0 }, { name := "BLOCK_BYTES", type := .int, accessFlags := 26, slot := 3, constantValue := 0 }]
  methods := #[k3m0, k3m1, k3m2]
  instanceTypes := #[.long, .long]
  staticTypes := #[(.object "java/lang/invoke/VarHandle"), .long, .long, .int]
  resolved := Array.replicate 137 none
  statics := none }

def pool4 : Array CpInfo := pool [(1, .methodref 2 3), (0, .class_ 4), (0, .nameAndType 5 6), (0, u "java/lang/Object"), (0, u "<init>"), (0, u "()V"), (0, .fieldref 8 9), (0, .class_ 10), (0, .nameAndType 11 12), (0, u "com/example/upper_falls/upperfalls/HeldKeys"), (0, u "limit"), (0, u "I"), (0, .methodref 14 15), (0, .class_ 16), (0, .nameAndType 17 18), (0, u "java/lang/Math"), (0, u "min"), (0, u "(II)I"), (0, .fieldref 8 20), (0, .nameAndType 21 22), (0, u "hash1"), (0, u "[J"), (0, .fieldref 8 24), (0, .nameAndType 25 22), (0, u "hash2"), (0, .fieldref 8 27), (0, .nameAndType 28 22), (0, u "occurrences"), (0, .fieldref 8 30), (0, .nameAndType 31 32), (0, u "holders"), (0, u "[I"), (0, .fieldref 8 34), (0, .nameAndType 35 32), (0, u "free"), (0, .methodref 8 37), (0, .nameAndType 38 39), (0, u "emptySlots"), (0, u "(I)[I"), (0, .fieldref 8 41), (0, .nameAndType 42 32), (0, u "slots"), (0, .fieldref 8 44), (0, .nameAndType 45 12), (0, u "freeCount"), (0, .fieldref 8 47), (0, .nameAndType 48 12), (0, u "used"), (8, u "(I)V"), (0, .methodref 59 60), (0, .class_ 61), (0, .nameAndType 62 63), (0, u "com/example/upper_falls/upperfalls/KeyHash"), (0, u "h1"), (0, u "()J"), (0, .methodref 8 65), (0, .nameAndType 66 67), (0, u "home"), (0, u "(J)I"), (0, .methodref 59 69), (0, .nameAndType 70 63), (0, u "h2"), (0, .methodref 8 72), (0, .nameAndType 73 74), (0, u "find"), (0, u "(Lcom/example/upper_falls/upperfalls/KeyHash;)I"), (0, .methodref 8 76), (0, .nameAndType 77 67), (0, u "emptySlot"), (0, .methodref 8 79), (0, .nameAndType 80 57), (0, u "removeSlot"), (1, .class_ 84), (1, u "java/util/Arrays"), (5, .methodref 14 91), (0, .nameAndType 92 18), (0, u "max"), (0, .methodref 94 95), (0, .class_ 96), (0, .nameAndType 97 98), (0, u "java/lang/Integer"), (0, u "highestOneBit"), (0, u "(I)I"), (0, .methodref 82 100), (0, .nameAndType 101 102), (0, u "fill"), (0, u "([II)V"), (0, u "INITIAL_CAPACITY"), (2, u "EMPTY"), (5, u "hold"), (0, u "release")] 6

def k4c0 : Code := { maxStack := 2, maxLocals := 3, code := prog_13_method_1_code, exceptionTable := #[], attributes := #[] }
def k4m0 : Method := { name := "<init>", desc := "(I)V", sig := { parameters := [.int], returnType := none }, accessFlags := 0, code := some k4c0 }
def k4c1 : Code := { maxStack := 4, maxLocals := 6, code := prog_13_method_3_code, exceptionTable := #[], attributes := #[] }
def k4m1 : Method := { name := "find", desc := "(Lcom/example/upper_falls/upperfalls/KeyHash;)I", sig := { parameters := [(.object "com/example/upper_falls/upperfalls/KeyHash")], returnType := some .int }, accessFlags := 0, code := some k4c1 }
def k4c2 : Code := { maxStack := 4, maxLocals := 3, code := prog_13_method_4_code, exceptionTable := #[], attributes := #[] }
def k4m2 : Method := { name := "hold", desc := "(Lcom/example/upper_falls/upperfalls/KeyHash;)I", sig := { parameters := [(.object "com/example/upper_falls/upperfalls/KeyHash")], returnType := some .int }, accessFlags := 0, code := some k4c2 }
def k4c3 : Code := { maxStack := 5, maxLocals := 4, code := prog_13_method_5_code, exceptionTable := #[], attributes := #[] }
def k4m3 : Method := { name := "release", desc := "(I)V", sig := { parameters := [.int], returnType := none }, accessFlags := 0, code := some k4c3 }
def k4c4 : Code := { maxStack := 2, maxLocals := 2, code := prog_13_method_9_code, exceptionTable := #[], attributes := #[] }
def k4m4 : Method := { name := "emptySlots", desc := "(I)[I", sig := { parameters := [.int], returnType := some (.array .int) }, accessFlags := 10, code := some k4c4 }
def k4c5 : Code := { maxStack := 3, maxLocals := 3, code := prog_13_method_10_code, exceptionTable := #[], attributes := #[] }
def k4m5 : Method := { name := "home", desc := "(J)I", sig := { parameters := [.long], returnType := some .int }, accessFlags := 2, code := some k4c5 }
def k4c6 : Code := { maxStack := 3, maxLocals := 5, code := prog_13_method_11_code, exceptionTable := #[], attributes := #[] }
def k4m6 : Method := { name := "emptySlot", desc := "(J)I", sig := { parameters := [.long], returnType := some .int }, accessFlags := 2, code := some k4c6 }
def k4c7 : Code := { maxStack := 5, maxLocals := 7, code := prog_13_method_12_code, exceptionTable := #[], attributes := #[] }
def k4m7 : Method := { name := "removeSlot", desc := "(I)V", sig := { parameters := [.int], returnType := none }, accessFlags := 2, code := some k4c7 }
/-- com/example/upper_falls/upperfalls/HeldKeys -/
def k4 : Class := { plain "com/example/upper_falls/upperfalls/HeldKeys" (some 0) with
  accessFlags := 32
  interfaces := #[]
  cf := some (fileOf pool4 8 #[] #[{ accessFlags := 0, nameIndex := 5, descriptorIndex := 57, attributes := #[] }, { accessFlags := 0, nameIndex := 73, descriptorIndex := 74, attributes := #[] }, { accessFlags := 0, nameIndex := 112, descriptorIndex := 74, attributes := #[] }, { accessFlags := 0, nameIndex := 113, descriptorIndex := 57, attributes := #[] }, { accessFlags := 10, nameIndex := 38, descriptorIndex := 39, attributes := #[] }, { accessFlags := 2, nameIndex := 66, descriptorIndex := 67, attributes := #[] }, { accessFlags := 2, nameIndex := 77, descriptorIndex := 67, attributes := #[] }, { accessFlags := 2, nameIndex := 80, descriptorIndex := 57, attributes := #[] }] 32 2 #[] #[{ accessFlags := 26, nameIndex := 103, descriptorIndex := 12, attributes := #[] }, { accessFlags := 26, nameIndex := 106, descriptorIndex := 12, attributes := #[] }, { accessFlags := 18, nameIndex := 11, descriptorIndex := 12, attributes := #[] }, { accessFlags := 2, nameIndex := 21, descriptorIndex := 22, attributes := #[] }, { accessFlags := 2, nameIndex := 25, descriptorIndex := 22, attributes := #[] }, { accessFlags := 2, nameIndex := 28, descriptorIndex := 22, attributes := #[] }, { accessFlags := 2, nameIndex := 31, descriptorIndex := 32, attributes := #[] }, { accessFlags := 2, nameIndex := 35, descriptorIndex := 32, attributes := #[] }, { accessFlags := 2, nameIndex := 45, descriptorIndex := 12, attributes := #[] }, { accessFlags := 2, nameIndex := 48, descriptorIndex := 12, attributes := #[] }, { accessFlags := 2, nameIndex := 42, descriptorIndex := 32, attributes := #[] }])
  fields := #[{ name := "INITIAL_CAPACITY", type := .int, accessFlags := 26, slot := 0, constantValue := 0 }, { name := "EMPTY", type := .int, accessFlags := 26, slot := 1, constantValue := 0 }, { name := "limit", type := .int, accessFlags := 18, slot := 0, constantValue := 0 }, { name := "hash1", type := (.array .long), accessFlags := 2, slot := 1, constantValue := 0 }, { name := "hash2", type := (.array .long), accessFlags := 2, slot := 2, constantValue := 0 }, { name := "occurrences", type := (.array .long), accessFlags := 2, slot := 3, constantValue := 0 }, { name := "holders", type := (.array .int), accessFlags := 2, slot := 4, constantValue := 0 }, { name := "free", type := (.array .int), accessFlags := 2, slot := 5, constantValue := 0 }, { name := "freeCount", type := .int, accessFlags := 2, slot := 6, constantValue := 0 }, { name := "used", type := .int, accessFlags := 2, slot := 7, constantValue := 0 }, { name := "slots", type := (.array .int), accessFlags := 2, slot := 8, constantValue := 0 }]
  methods := #[k4m0, k4m1, k4m2, k4m3, k4m4, k4m5, k4m6, k4m7]
  instanceTypes := #[.int, (.array .long), (.array .long), (.array .long), (.array .int), (.array .int), .int, .int, (.array .int)]
  staticTypes := #[.int, .int]
  resolved := Array.replicate 120 none
  statics := none }

def pool5 : Array CpInfo := pool [(1, .class_ 2), (0, u "java/lang/Math"), (1, .class_ 6), (1, u "java/lang/Object"), (0, u "<init>"), (0, u "()V"), (89, .class_ 100), (1, u "java/lang/Math$RandomNumberGeneratorHolder"), (71, u "negativeZeroFloatBits"), (0, u "J"), (2, u "negativeZeroDoubleBits"), (21, u "max"), (2, u "min"), (43, u "$assertionsDisabled"), (0, u "Z"), (88, u "(II)I"), (2, u "twoToTheDoubleScaleDown"), (0, u "D"), (4, u "twoToTheDoubleScaleUp"), (9, u "E"), (3, u "PI"), (2, u "TAU"), (2, u "DEGREES_TO_RADIANS"), (0, u "RADIANS_TO_DEGREES")] 94

def k5m0 : Method := { name := "<init>", desc := "()V", sig := { parameters := [], returnType := none }, accessFlags := 2, code := none }
def k5c1 : Code := { maxStack := 2, maxLocals := 2, code := jdk_29_method_65_code, exceptionTable := #[], attributes := #[] }
def k5m1 : Method := { name := "max", desc := "(II)I", sig := { parameters := [.int, .int], returnType := some .int }, accessFlags := 9, code := some k5c1 }
def k5c2 : Code := { maxStack := 2, maxLocals := 2, code := jdk_29_method_69_code, exceptionTable := #[], attributes := #[] }
def k5m2 : Method := { name := "min", desc := "(II)I", sig := { parameters := [.int, .int], returnType := some .int }, accessFlags := 9, code := some k5c2 }
/-- java/lang/Math -/
def k5 : Class := { plain "java/lang/Math" (some 0) with
  accessFlags := 49
  interfaces := #[]
  cf := some (fileOf pool5 1 #[.nestMembers #[98]] #[{ accessFlags := 2, nameIndex := 7, descriptorIndex := 8, attributes := #[] }, { accessFlags := 9, nameIndex := 198, descriptorIndex := 335, attributes := #[] }, { accessFlags := 9, nameIndex := 201, descriptorIndex := 335, attributes := #[] }] 49 4 #[] #[{ accessFlags := 25, nameIndex := 354, descriptorIndex := 339, attributes := #[] }, { accessFlags := 25, nameIndex := 358, descriptorIndex := 339, attributes := #[] }, { accessFlags := 25, nameIndex := 361, descriptorIndex := 339, attributes := #[] }, { accessFlags := 26, nameIndex := 364, descriptorIndex := 339, attributes := #[] }, { accessFlags := 26, nameIndex := 365, descriptorIndex := 339, attributes := #[] }, { accessFlags := 26, nameIndex := 172, descriptorIndex := 173, attributes := #[] }, { accessFlags := 26, nameIndex := 176, descriptorIndex := 173, attributes := #[] }, { accessFlags := 8, nameIndex := 344, descriptorIndex := 339, attributes := #[] }, { accessFlags := 8, nameIndex := 338, descriptorIndex := 339, attributes := #[] }, { accessFlags := 4120, nameIndex := 245, descriptorIndex := 246, attributes := #[] }])
  fields := #[{ name := "E", type := .double, accessFlags := 25, slot := 0, constantValue := 0 }, { name := "PI", type := .double, accessFlags := 25, slot := 1, constantValue := 0 }, { name := "TAU", type := .double, accessFlags := 25, slot := 2, constantValue := 0 }, { name := "DEGREES_TO_RADIANS", type := .double, accessFlags := 26, slot := 3, constantValue := 0 }, { name := "RADIANS_TO_DEGREES", type := .double, accessFlags := 26, slot := 4, constantValue := 0 }, { name := "negativeZeroFloatBits", type := .long, accessFlags := 26, slot := 5, constantValue := 0 }, { name := "negativeZeroDoubleBits", type := .long, accessFlags := 26, slot := 6, constantValue := 0 }, { name := "twoToTheDoubleScaleUp", type := .double, accessFlags := 8, slot := 7, constantValue := 0 }, { name := "twoToTheDoubleScaleDown", type := .double, accessFlags := 8, slot := 8, constantValue := 0 }, { name := "$assertionsDisabled", type := .boolean, accessFlags := 4120, slot := 9, constantValue := 0 }]
  methods := #[k5m0, k5m1, k5m2]
  instanceTypes := #[]
  staticTypes := #[.double, .double, .double, .double, .double, .long, .long, .double, .double, .boolean]
  resolved := Array.replicate 460 none
  statics := none }

def pool6 : Array CpInfo := pool [(1, .class_ 2), (0, u "java/io/Serializable"), (0, .class_ 4), (0, u "java/lang/Object")] 2

/-- java/io/Serializable -/
def k6 : Class := { plain "java/io/Serializable" (some 0) with
  accessFlags := 1537
  interfaces := #[]
  cf := some (fileOf pool6 1 #[] #[] 1537 3 #[] #[])
  fields := #[]
  methods := #[]
  instanceTypes := #[]
  staticTypes := #[]
  resolved := Array.replicate 7 none
  statics := none }

def pool7 : Array CpInfo := pool [(2, .class_ 4), (1, u "java/lang/Object"), (0, u "<init>"), (0, u "()V"), (1, .class_ 10), (1, u "java/lang/Number"), (2, .class_ 14), (0, u "java/io/Serializable"), (0, u "serialVersionUID"), (0, u "J")] 20

def k7m0 : Method := { name := "<init>", desc := "()V", sig := { parameters := [], returnType := none }, accessFlags := 1, code := none }
/-- java/lang/Number -/
def k7 : Class := { plain "java/lang/Number" (some 0) with
  accessFlags := 1057
  interfaces := #[6]
  cf := some (fileOf pool7 8 #[] #[{ accessFlags := 1, nameIndex := 5, descriptorIndex := 6, attributes := #[] }] 1057 2 #[13] #[{ accessFlags := 26, nameIndex := 15, descriptorIndex := 16, attributes := #[] }])
  fields := #[{ name := "serialVersionUID", type := .long, accessFlags := 26, slot := 0, constantValue := 0 }]
  methods := #[k7m0]
  instanceTypes := #[]
  staticTypes := #[.long]
  resolved := Array.replicate 37 none
  statics := none }

def pool8 : Array CpInfo := pool [(1, .class_ 2), (0, u "java/lang/Comparable"), (0, .class_ 4), (0, u "java/lang/Object")] 7

/-- java/lang/Comparable -/
def k8 : Class := { plain "java/lang/Comparable" (some 0) with
  accessFlags := 1537
  interfaces := #[]
  cf := some (fileOf pool8 1 #[] #[] 1537 3 #[] #[])
  fields := #[]
  methods := #[]
  instanceTypes := #[]
  staticTypes := #[]
  resolved := Array.replicate 12 none
  statics := none }

def pool9 : Array CpInfo := pool [(1, .class_ 2), (0, u "java/lang/constant/Constable"), (0, .class_ 4), (0, u "java/lang/Object")] 6

/-- java/lang/constant/Constable -/
def k9 : Class := { plain "java/lang/constant/Constable" (some 0) with
  accessFlags := 1537
  interfaces := #[]
  cf := some (fileOf pool9 1 #[] #[] 1537 3 #[] #[])
  fields := #[]
  methods := #[]
  instanceTypes := #[]
  staticTypes := #[]
  resolved := Array.replicate 11 none
  statics := none }

def pool10 : Array CpInfo := pool [(1, .class_ 2), (0, u "java/lang/constant/ConstantDesc"), (0, .class_ 4), (0, u "java/lang/Object")] 32

/-- java/lang/constant/ConstantDesc -/
def k10 : Class := { plain "java/lang/constant/ConstantDesc" (some 0) with
  accessFlags := 1537
  interfaces := #[]
  cf := some (fileOf pool10 1 #[] #[] 1537 3 #[] #[])
  fields := #[]
  methods := #[]
  instanceTypes := #[]
  staticTypes := #[]
  resolved := Array.replicate 37 none
  statics := none }

def pool11 : Array CpInfo := pool [(1, .class_ 2), (0, u "java/lang/Integer"), (16, u "digits"), (0, u "[C"), (30, .methodref 1 52), (0, .nameAndType 53 54), (0, u "numberOfLeadingZeros"), (0, u "(I)I"), (30, u "DigitOnes"), (0, u "[B"), (2, u "DigitTens"), (37, .integer 2147483648), (61, .class_ 190), (0, u "java/lang/Integer$IntegerCache"), (3, u "I"), (8, .class_ 204), (0, u "java/lang/Number"), (2, u "value"), (56, .integer 65536), (37, u "TYPE"), (0, u "Ljava/lang/Class;"), (0, .class_ 305), (0, u "java/lang/Comparable"), (0, .class_ 307), (0, u "java/lang/constant/Constable"), (0, .class_ 309), (0, u "java/lang/constant/ConstantDesc"), (0, u "MIN_VALUE"), (1, u "MAX_VALUE"), (3, u "SIZE"), (1, u "BYTES"), (1, u "serialVersionUID"), (0, u "J"), (81, u "highestOneBit")] 49

def k11c0 : Code := { maxStack := 3, maxLocals := 1, code := jdk_33_method_45_code, exceptionTable := #[], attributes := #[] }
def k11m0 : Method := { name := "highestOneBit", desc := "(I)I", sig := { parameters := [.int], returnType := some .int }, accessFlags := 9, code := some k11c0 }
def k11c1 : Code := { maxStack := 3, maxLocals := 2, code := jdk_33_method_47_code, exceptionTable := #[], attributes := #[] }
def k11m1 : Method := { name := "numberOfLeadingZeros", desc := "(I)I", sig := { parameters := [.int], returnType := some .int }, accessFlags := 9, code := some k11c1 }
/-- java/lang/Integer -/
def k11 : Class := { plain "java/lang/Integer" (some 7) with
  accessFlags := 49
  interfaces := #[8, 9, 10]
  cf := some (fileOf pool11 1 #[.nestMembers #[189]] #[{ accessFlags := 9, nameIndex := 403, descriptorIndex := 54, attributes := #[] }, { accessFlags := 9, nameIndex := 53, descriptorIndex := 54, attributes := #[] }] 49 203 #[304, 306, 308] #[{ accessFlags := 25, nameIndex := 310, descriptorIndex := 194, attributes := #[] }, { accessFlags := 25, nameIndex := 312, descriptorIndex := 194, attributes := #[] }, { accessFlags := 25, nameIndex := 302, descriptorIndex := 303, attributes := #[] }, { accessFlags := 24, nameIndex := 19, descriptorIndex := 20, attributes := #[] }, { accessFlags := 24, nameIndex := 89, descriptorIndex := 86, attributes := #[] }, { accessFlags := 24, nameIndex := 85, descriptorIndex := 86, attributes := #[] }, { accessFlags := 18, nameIndex := 207, descriptorIndex := 194, attributes := #[] }, { accessFlags := 25, nameIndex := 316, descriptorIndex := 194, attributes := #[] }, { accessFlags := 25, nameIndex := 318, descriptorIndex := 194, attributes := #[] }, { accessFlags := 26, nameIndex := 320, descriptorIndex := 321, attributes := #[] }])
  fields := #[{ name := "MIN_VALUE", type := .int, accessFlags := 25, slot := 0, constantValue := 0 }, { name := "MAX_VALUE", type := .int, accessFlags := 25, slot := 1, constantValue := 0 }, { name := "TYPE", type := (.object "java/lang/Class"), accessFlags := 25, slot := 2, constantValue := 0 }, { name := "digits", type := (.array .char), accessFlags := 24, slot := 3, constantValue := 0 }, { name := "DigitTens", type := (.array .byte), accessFlags := 24, slot := 4, constantValue := 0 }, { name := "DigitOnes", type := (.array .byte), accessFlags := 24, slot := 5, constantValue := 0 }, { name := "value", type := .int, accessFlags := 18, slot := 0, constantValue := 0 }, { name := "SIZE", type := .int, accessFlags := 25, slot := 6, constantValue := 0 }, { name := "BYTES", type := .int, accessFlags := 25, slot := 7, constantValue := 0 }, { name := "serialVersionUID", type := .long, accessFlags := 26, slot := 8, constantValue := 0 }]
  methods := #[k11m0, k11m1]
  instanceTypes := #[.int]
  staticTypes := #[.int, .int, (.object "java/lang/Class"), (.array .char), (.array .byte), (.array .byte), .int, .int, .long]
  resolved := Array.replicate 453 none
  statics := none }

def pool12 : Array CpInfo := pool [(2, .class_ 4), (1, u "java/lang/Object"), (0, u "<init>"), (0, u "()V"), (7, .class_ 16), (1, u "java/util/Arrays"), (57, .class_ 76), (1, u "java/util/Arrays$NaturalOrder"), (36, .class_ 115), (1, u "java/util/Arrays$LegacyMergeSort"), (1, u "Z"), (257, .class_ 376), (0, u "java/util/Arrays$ArrayList"), (68, u "$assertionsDisabled"), (269, u "MIN_ARRAY_SORT_GRAN"), (0, u "I"), (2, u "INSERTIONSORT_THRESHOLD"), (120, u "fill"), (4, u "([II)V"), (129, .class_ 976), (0, u "java/util/Arrays$ArrayItr")] 52

def k12m0 : Method := { name := "<init>", desc := "()V", sig := { parameters := [], returnType := none }, accessFlags := 2, code := none }
def k12c1 : Code := { maxStack := 3, maxLocals := 4, code := jdk_65_method_103_code, exceptionTable := #[], attributes := #[] }
def k12m1 : Method := { name := "fill", desc := "([II)V", sig := { parameters := [(.array .int), .int], returnType := none }, accessFlags := 9, code := some k12c1 }
/-- java/util/Arrays -/
def k12 : Class := { plain "java/util/Arrays" (some 0) with
  accessFlags := 49
  interfaces := #[]
  cf := some (fileOf pool12 14 #[.nestMembers #[975, 375, 113, 74]] #[{ accessFlags := 2, nameIndex := 5, descriptorIndex := 6, attributes := #[] }, { accessFlags := 9, nameIndex := 840, descriptorIndex := 845, attributes := #[] }] 49 2 #[] #[{ accessFlags := 26, nameIndex := 715, descriptorIndex := 716, attributes := #[] }, { accessFlags := 26, nameIndex := 719, descriptorIndex := 716, attributes := #[] }, { accessFlags := 4120, nameIndex := 445, descriptorIndex := 117, attributes := #[] }])
  fields := #[{ name := "MIN_ARRAY_SORT_GRAN", type := .int, accessFlags := 26, slot := 0, constantValue := 0 }, { name := "INSERTIONSORT_THRESHOLD", type := .int, accessFlags := 26, slot := 1, constantValue := 0 }, { name := "$assertionsDisabled", type := .boolean, accessFlags := 4120, slot := 2, constantValue := 0 }]
  methods := #[k12m0, k12m1]
  instanceTypes := #[]
  staticTypes := #[.int, .int, .boolean]
  resolved := Array.replicate 1029 none
  statics := none }

def pool13 : Array CpInfo := pool [(1, u "java/lang/Cloneable"), (0, .class_ 1), (0, u "java/lang/Object"), (0, .class_ 3)] 3

/-- java/lang/Cloneable -/
def k13 : Class := { plain "java/lang/Cloneable" (some 0) with
  accessFlags := 1537
  interfaces := #[]
  cf := some (fileOf pool13 2 #[] #[] 1537 4 #[] #[])
  fields := #[]
  methods := #[]
  instanceTypes := #[]
  staticTypes := #[]
  resolved := Array.replicate 8 none
  statics := none }

/-- the primitive byte -/
def k14 : Class := { plain "byte" none with kind := .primitive 'B', accessFlags := 0x411 }
/-- [B -/
def k15 : Class := { plain "[B" (some 0) with kind := .array 14 .byte, interfaces := #[13, 6], accessFlags := 1041 }

/-- the primitive int -/
def k16 : Class := { plain "int" none with kind := .primitive 'I', accessFlags := 0x411 }
/-- [I -/
def k17 : Class := { plain "[I" (some 0) with kind := .array 16 .int, interfaces := #[13, 6], accessFlags := 1041 }

/-- the primitive long -/
def k18 : Class := { plain "long" none with kind := .primitive 'J', accessFlags := 0x411 }
/-- [J -/
def k19 : Class := { plain "[J" (some 0) with kind := .array 18 .long, interfaces := #[13, 6], accessFlags := 1041 }

def heap : Heap := #[]
def classes : Array Class := #[k0, k1, k2, k3, k4, k5, k6, k7, k8, k9, k10, k11, k12, k13, k14, k15, k16, k17, k18, k19]
def interned : List (Array UInt16 × Addr) := []
def slotsUsed : Nat := 0
def theMethod : MethodId := ⟨1, 1⟩
def args0 : Array Value := #[.long 5, .long 5, .long 5, .long 5, .int 5]
def aboutOver (below : List Frame) : State where
  vm := { classes := classes, interned := interned.toArray }
  heap := heap
  slotsUsed := slotsUsed
  threads := #[{ frames := .invoking theMethod args0 :: below }]
def below0 : List Frame := [.native { method := ⟨0, 0⟩, args := #[] }]
def about1 : State := aboutOver below0
def p0 : Program := .bare "" "" ""
def e0 : Env := launch0.env 0 0 0
theorem w_frames : about1.frames = Frame.invoking theMethod args0 :: below0 := rfl
set_option maxRecDepth 65536 in
theorem w_args : argsFit about1.vm theMethod args0 = true := by decide +kernel
set_option maxRecDepth 65536 in
theorem w_heap : heapFits about1 = true := by decide +kernel
set_option maxRecDepth 65536 in
theorem w_runnable : about1.curStatus? = some .runnable := by decide +kernel
set_option maxRecDepth 65536 in
theorem w_alone : about1.alone = true := by decide +kernel
set_option maxRecDepth 65536 in
theorem w_named : about1.methodNamed? x = some theMethod := by decide +kernel
set_option maxRecDepth 65536 in
theorem w_hears : about1.hears theMethod below0 = true := by decide +kernel
set_option maxRecDepth 65536 in
theorem w_ripe : about1.ripe theMethod args0 below0 = true := by decide +kernel
theorem w_running : about1.status = .running := rfl
set_option maxRecDepth 65536 in
theorem w_room : about1.hasRoom e0.platform room_1 = true :=
  launch0.hasRoom_least _ room_1 (by decide +kernel) (by decide +kernel) (by decide +kernel) (by decide +kernel) (by decide +kernel) (by decide +kernel)
theorem allAtoms_all (ts : List Jvm.Cond) (a : Array Jvm.Value) (st : Jvm.State) : (allAtoms ts).before a st = ts.all (fun c => c.before a st) := by
  induction ts with
  | nil => rfl
  | cons c t ih =>
    show (Jvm.Cond.and c (allAtoms t)).before a st = _
    rw [Jvm.Cond.before_and, ih, List.all_cons]
def words1 : List Jvm.Cond := Jvm.Cond.code x code maxLocals ret :: tables_1
/-- a 'code' word, met by the world's own term for the bytes: nothing is compared byte by byte -/
theorem code_word {y : MethodName} {bytes : ByteArray} {mx : Nat} {rt : Option FieldType} {a : Array Value} {s : State} {m : MethodId} {meth : Method} {c : Code} (h1 : s.methodNamed? y = some m) (h2 : s.vm.method? m = some meth) (h3 : meth.code = some c) (h4 : c.code = bytes)
    (h5 : (c.maxLocals == mx && c.exceptionTable.isEmpty && decide (c.maxStack ≤ mostOperands) && decide (meth.sig.returnType = rt) && !meth.locks && decide (parseMethodDescriptor y.desc = some meth.sig)) = true) : (Jvm.Cond.code y bytes mx rt).before a s = true := by
  simp only [Bool.and_eq_true, beq_iff_eq, Bool.not_eq_true', decide_eq_true_eq] at h5
  obtain ⟨⟨⟨⟨⟨g1, g2⟩, g3⟩, g4⟩, g5⟩, g6⟩ := h5
  simp [Cond.before, Cond.holds, Cond.value, h1, h2, h3, h4, g1, g2, g3, g4, g5, g6]
def isCode : Jvm.Cond → Bool
  | .code _ _ _ _ => true
  | _ => false
theorem all_split {L : List Jvm.Cond} {P : Jvm.Cond → Bool} (h1 : L.all (fun c => isCode c || P c) = true) (h2 : ∀ c ∈ L.filter isCode, P c = true) : L.all P = true := by
  refine List.all_eq_true.mpr fun c hc => ?_
  have h := List.all_eq_true.mp h1 c hc
  rcases Bool.eq_false_or_eq_true (isCode c) with hi | hi
  · exact h2 c (List.mem_filter.mpr ⟨hc, hi⟩)
  · simpa [hi] using h
set_option maxRecDepth 65536 in
theorem w_c0 : (Jvm.Cond.code x code maxLocals ret).before args0 about1 = true := code_word (m := ⟨1, 1⟩) (meth := k1m1) (c := k1c1) (by decide +kernel) rfl rfl rfl (by decide +kernel)
set_option maxRecDepth 65536 in
theorem w_c1 : (Jvm.Cond.code ({ cls := "com/example/upper_falls/upperfalls/HeldKeysReleasePinLaw", name := "home", desc := "(II)J" } : Jvm.MethodName) method_3_code (2 : Nat) (Option.some Jvm.ClassFile.FieldType.long)).before args0 about1 = true := code_word (m := ⟨1, 2⟩) (meth := k1m2) (c := k1c2) (by decide +kernel) rfl rfl rfl (by decide +kernel)
set_option maxRecDepth 65536 in
theorem w_c2 : (Jvm.Cond.code ({ cls := "com/example/upper_falls/upperfalls/KeyHash", name := "<init>", desc := "(JJ)V" } : Jvm.MethodName) prog_15_method_1_code (5 : Nat) (Option.none : Option Jvm.ClassFile.FieldType)).before args0 about1 = true := code_word (m := ⟨3, 0⟩) (meth := k3m0) (c := k3c0) (by decide +kernel) rfl rfl rfl (by decide +kernel)
set_option maxRecDepth 65536 in
theorem w_c3 : (Jvm.Cond.code ({ cls := "java/lang/Record", name := "<init>", desc := "()V" } : Jvm.MethodName) jdk_30_method_1_code (1 : Nat) (Option.none : Option Jvm.ClassFile.FieldType)).before args0 about1 = true := code_word (m := ⟨2, 0⟩) (meth := k2m0) (c := k2c0) (by decide +kernel) rfl rfl rfl (by decide +kernel)
set_option maxRecDepth 65536 in
theorem w_c4 : (Jvm.Cond.code ({ cls := "java/lang/Object", name := "<init>", desc := "()V" } : Jvm.MethodName) object_method_1_code (1 : Nat) (Option.none : Option Jvm.ClassFile.FieldType)).before args0 about1 = true := code_word (m := ⟨0, 0⟩) (meth := k0m0) (c := k0c0) (by decide +kernel) rfl rfl rfl (by decide +kernel)
set_option maxRecDepth 65536 in
theorem w_c5 : (Jvm.Cond.code ({ cls := "com/example/upper_falls/upperfalls/HeldKeys", name := "<init>", desc := "(I)V" } : Jvm.MethodName) prog_13_method_1_code (3 : Nat) (Option.none : Option Jvm.ClassFile.FieldType)).before args0 about1 = true := code_word (m := ⟨4, 0⟩) (meth := k4m0) (c := k4c0) (by decide +kernel) rfl rfl rfl (by decide +kernel)
set_option maxRecDepth 65536 in
theorem w_c6 : (Jvm.Cond.code ({ cls := "java/lang/Math", name := "min", desc := "(II)I" } : Jvm.MethodName) jdk_29_method_69_code (2 : Nat) (Option.some Jvm.ClassFile.FieldType.int)).before args0 about1 = true := code_word (m := ⟨5, 2⟩) (meth := k5m2) (c := k5c2) (by decide +kernel) rfl rfl rfl (by decide +kernel)
set_option maxRecDepth 65536 in
theorem w_c7 : (Jvm.Cond.code ({ cls := "com/example/upper_falls/upperfalls/HeldKeys", name := "emptySlots", desc := "(I)[I" } : Jvm.MethodName) prog_13_method_9_code (2 : Nat) (Option.some (Jvm.ClassFile.FieldType.array Jvm.ClassFile.FieldType.int))).before args0 about1 = true := code_word (m := ⟨4, 4⟩) (meth := k4m4) (c := k4c4) (by decide +kernel) rfl rfl rfl (by decide +kernel)
set_option maxRecDepth 65536 in
theorem w_c8 : (Jvm.Cond.code ({ cls := "java/lang/Math", name := "max", desc := "(II)I" } : Jvm.MethodName) jdk_29_method_65_code (2 : Nat) (Option.some Jvm.ClassFile.FieldType.int)).before args0 about1 = true := code_word (m := ⟨5, 1⟩) (meth := k5m1) (c := k5c1) (by decide +kernel) rfl rfl rfl (by decide +kernel)
set_option maxRecDepth 65536 in
theorem w_c9 : (Jvm.Cond.code ({ cls := "java/lang/Integer", name := "highestOneBit", desc := "(I)I" } : Jvm.MethodName) jdk_33_method_45_code (1 : Nat) (Option.some Jvm.ClassFile.FieldType.int)).before args0 about1 = true := code_word (m := ⟨11, 0⟩) (meth := k11m0) (c := k11c0) (by decide +kernel) rfl rfl rfl (by decide +kernel)
set_option maxRecDepth 65536 in
theorem w_c10 : (Jvm.Cond.code ({ cls := "java/lang/Integer", name := "numberOfLeadingZeros", desc := "(I)I" } : Jvm.MethodName) jdk_33_method_47_code (2 : Nat) (Option.some Jvm.ClassFile.FieldType.int)).before args0 about1 = true := code_word (m := ⟨11, 1⟩) (meth := k11m1) (c := k11c1) (by decide +kernel) rfl rfl rfl (by decide +kernel)
set_option maxRecDepth 65536 in
theorem w_c11 : (Jvm.Cond.code ({ cls := "java/util/Arrays", name := "fill", desc := "([II)V" } : Jvm.MethodName) jdk_65_method_103_code (4 : Nat) (Option.none : Option Jvm.ClassFile.FieldType)).before args0 about1 = true := code_word (m := ⟨12, 1⟩) (meth := k12m1) (c := k12c1) (by decide +kernel) rfl rfl rfl (by decide +kernel)
set_option maxRecDepth 65536 in
theorem w_c12 : (Jvm.Cond.code ({ cls := "com/example/upper_falls/upperfalls/HeldKeys", name := "hold", desc := "(Lcom/example/upper_falls/upperfalls/KeyHash;)I" } : Jvm.MethodName) prog_13_method_4_code (3 : Nat) (Option.some Jvm.ClassFile.FieldType.int)).before args0 about1 = true := code_word (m := ⟨4, 2⟩) (meth := k4m2) (c := k4c2) (by decide +kernel) rfl rfl rfl (by decide +kernel)
set_option maxRecDepth 65536 in
theorem w_c13 : (Jvm.Cond.code ({ cls := "com/example/upper_falls/upperfalls/HeldKeys", name := "find", desc := "(Lcom/example/upper_falls/upperfalls/KeyHash;)I" } : Jvm.MethodName) prog_13_method_3_code (6 : Nat) (Option.some Jvm.ClassFile.FieldType.int)).before args0 about1 = true := code_word (m := ⟨4, 1⟩) (meth := k4m1) (c := k4c1) (by decide +kernel) rfl rfl rfl (by decide +kernel)
set_option maxRecDepth 65536 in
theorem w_c14 : (Jvm.Cond.code ({ cls := "com/example/upper_falls/upperfalls/KeyHash", name := "h1", desc := "()J" } : Jvm.MethodName) prog_15_method_10_code (1 : Nat) (Option.some Jvm.ClassFile.FieldType.long)).before args0 about1 = true := code_word (m := ⟨3, 1⟩) (meth := k3m1) (c := k3c1) (by decide +kernel) rfl rfl rfl (by decide +kernel)
set_option maxRecDepth 65536 in
theorem w_c15 : (Jvm.Cond.code ({ cls := "com/example/upper_falls/upperfalls/HeldKeys", name := "home", desc := "(J)I" } : Jvm.MethodName) prog_13_method_10_code (3 : Nat) (Option.some Jvm.ClassFile.FieldType.int)).before args0 about1 = true := code_word (m := ⟨4, 5⟩) (meth := k4m5) (c := k4c5) (by decide +kernel) rfl rfl rfl (by decide +kernel)
set_option maxRecDepth 65536 in
theorem w_c16 : (Jvm.Cond.code ({ cls := "com/example/upper_falls/upperfalls/KeyHash", name := "h2", desc := "()J" } : Jvm.MethodName) prog_15_method_11_code (1 : Nat) (Option.some Jvm.ClassFile.FieldType.long)).before args0 about1 = true := code_word (m := ⟨3, 2⟩) (meth := k3m2) (c := k3c2) (by decide +kernel) rfl rfl rfl (by decide +kernel)
set_option maxRecDepth 65536 in
theorem w_c17 : (Jvm.Cond.code ({ cls := "com/example/upper_falls/upperfalls/HeldKeys", name := "emptySlot", desc := "(J)I" } : Jvm.MethodName) prog_13_method_11_code (5 : Nat) (Option.some Jvm.ClassFile.FieldType.int)).before args0 about1 = true := code_word (m := ⟨4, 6⟩) (meth := k4m6) (c := k4c6) (by decide +kernel) rfl rfl rfl (by decide +kernel)
set_option maxRecDepth 65536 in
theorem w_c18 : (Jvm.Cond.code ({ cls := "com/example/upper_falls/upperfalls/HeldKeys", name := "release", desc := "(I)V" } : Jvm.MethodName) prog_13_method_5_code (4 : Nat) (Option.none : Option Jvm.ClassFile.FieldType)).before args0 about1 = true := code_word (m := ⟨4, 3⟩) (meth := k4m3) (c := k4c3) (by decide +kernel) rfl rfl rfl (by decide +kernel)
set_option maxRecDepth 65536 in
theorem w_c19 : (Jvm.Cond.code ({ cls := "com/example/upper_falls/upperfalls/HeldKeys", name := "removeSlot", desc := "(I)V" } : Jvm.MethodName) prog_13_method_12_code (7 : Nat) (Option.none : Option Jvm.ClassFile.FieldType)).before args0 about1 = true := code_word (m := ⟨4, 7⟩) (meth := k4m7) (c := k4c7) (by decide +kernel) rfl rfl rfl (by decide +kernel)
def codes1 : List Jvm.Cond := [Jvm.Cond.code x code maxLocals ret, Jvm.Cond.code ({ cls := "com/example/upper_falls/upperfalls/HeldKeysReleasePinLaw", name := "home", desc := "(II)J" } : Jvm.MethodName) method_3_code (2 : Nat) (Option.some Jvm.ClassFile.FieldType.long), Jvm.Cond.code ({ cls := "com/example/upper_falls/upperfalls/KeyHash", name := "<init>", desc := "(JJ)V" } : Jvm.MethodName) prog_15_method_1_code (5 : Nat) (Option.none : Option Jvm.ClassFile.FieldType), Jvm.Cond.code ({ cls := "java/lang/Record", name := "<init>", desc := "()V" } : Jvm.MethodName) jdk_30_method_1_code (1 : Nat) (Option.none : Option Jvm.ClassFile.FieldType), Jvm.Cond.code ({ cls := "java/lang/Object", name := "<init>", desc := "()V" } : Jvm.MethodName) object_method_1_code (1 : Nat) (Option.none : Option Jvm.ClassFile.FieldType), Jvm.Cond.code ({ cls := "com/example/upper_falls/upperfalls/HeldKeys", name := "<init>", desc := "(I)V" } : Jvm.MethodName) prog_13_method_1_code (3 : Nat) (Option.none : Option Jvm.ClassFile.FieldType), Jvm.Cond.code ({ cls := "java/lang/Math", name := "min", desc := "(II)I" } : Jvm.MethodName) jdk_29_method_69_code (2 : Nat) (Option.some Jvm.ClassFile.FieldType.int), Jvm.Cond.code ({ cls := "com/example/upper_falls/upperfalls/HeldKeys", name := "emptySlots", desc := "(I)[I" } : Jvm.MethodName) prog_13_method_9_code (2 : Nat) (Option.some (Jvm.ClassFile.FieldType.array Jvm.ClassFile.FieldType.int)), Jvm.Cond.code ({ cls := "java/lang/Math", name := "max", desc := "(II)I" } : Jvm.MethodName) jdk_29_method_65_code (2 : Nat) (Option.some Jvm.ClassFile.FieldType.int), Jvm.Cond.code ({ cls := "java/lang/Integer", name := "highestOneBit", desc := "(I)I" } : Jvm.MethodName) jdk_33_method_45_code (1 : Nat) (Option.some Jvm.ClassFile.FieldType.int), Jvm.Cond.code ({ cls := "java/lang/Integer", name := "numberOfLeadingZeros", desc := "(I)I" } : Jvm.MethodName) jdk_33_method_47_code (2 : Nat) (Option.some Jvm.ClassFile.FieldType.int), Jvm.Cond.code ({ cls := "java/util/Arrays", name := "fill", desc := "([II)V" } : Jvm.MethodName) jdk_65_method_103_code (4 : Nat) (Option.none : Option Jvm.ClassFile.FieldType), Jvm.Cond.code ({ cls := "com/example/upper_falls/upperfalls/HeldKeys", name := "hold", desc := "(Lcom/example/upper_falls/upperfalls/KeyHash;)I" } : Jvm.MethodName) prog_13_method_4_code (3 : Nat) (Option.some Jvm.ClassFile.FieldType.int), Jvm.Cond.code ({ cls := "com/example/upper_falls/upperfalls/HeldKeys", name := "find", desc := "(Lcom/example/upper_falls/upperfalls/KeyHash;)I" } : Jvm.MethodName) prog_13_method_3_code (6 : Nat) (Option.some Jvm.ClassFile.FieldType.int), Jvm.Cond.code ({ cls := "com/example/upper_falls/upperfalls/KeyHash", name := "h1", desc := "()J" } : Jvm.MethodName) prog_15_method_10_code (1 : Nat) (Option.some Jvm.ClassFile.FieldType.long), Jvm.Cond.code ({ cls := "com/example/upper_falls/upperfalls/HeldKeys", name := "home", desc := "(J)I" } : Jvm.MethodName) prog_13_method_10_code (3 : Nat) (Option.some Jvm.ClassFile.FieldType.int), Jvm.Cond.code ({ cls := "com/example/upper_falls/upperfalls/KeyHash", name := "h2", desc := "()J" } : Jvm.MethodName) prog_15_method_11_code (1 : Nat) (Option.some Jvm.ClassFile.FieldType.long), Jvm.Cond.code ({ cls := "com/example/upper_falls/upperfalls/HeldKeys", name := "emptySlot", desc := "(J)I" } : Jvm.MethodName) prog_13_method_11_code (5 : Nat) (Option.some Jvm.ClassFile.FieldType.int), Jvm.Cond.code ({ cls := "com/example/upper_falls/upperfalls/HeldKeys", name := "release", desc := "(I)V" } : Jvm.MethodName) prog_13_method_5_code (4 : Nat) (Option.none : Option Jvm.ClassFile.FieldType), Jvm.Cond.code ({ cls := "com/example/upper_falls/upperfalls/HeldKeys", name := "removeSlot", desc := "(I)V" } : Jvm.MethodName) prog_13_method_12_code (7 : Nat) (Option.none : Option Jvm.ClassFile.FieldType)]
set_option maxRecDepth 65536 in
theorem codes_eq : words1.filter isCode = codes1 := rfl
theorem w_codes : ∀ c ∈ words1.filter isCode, c.before args0 about1 = true := by
  rw [codes_eq]
  intro c hc
  simp only [codes1, List.mem_cons, List.not_mem_nil, or_false] at hc
  rcases hc with rfl | rfl | rfl | rfl | rfl | rfl | rfl | rfl | rfl | rfl | rfl | rfl | rfl | rfl | rfl | rfl | rfl | rfl | rfl | rfl
  · exact w_c0
  · exact w_c1
  · exact w_c2
  · exact w_c3
  · exact w_c4
  · exact w_c5
  · exact w_c6
  · exact w_c7
  · exact w_c8
  · exact w_c9
  · exact w_c10
  · exact w_c11
  · exact w_c12
  · exact w_c13
  · exact w_c14
  · exact w_c15
  · exact w_c16
  · exact w_c17
  · exact w_c18
  · exact w_c19
set_option maxRecDepth 65536 in
theorem w_t1 : (words1.take 24).all (fun c => isCode c || c.before args0 about1) = true := by decide +kernel
set_option maxRecDepth 65536 in
theorem w_t2 : ((words1.drop 24).take 24).all (fun c => isCode c || c.before args0 about1) = true := by decide +kernel
set_option maxRecDepth 65536 in
theorem w_t3 : (((words1.drop 24).drop 24).take 24).all (fun c => isCode c || c.before args0 about1) = true := by decide +kernel
set_option maxRecDepth 65536 in
theorem w_t4 : ((((words1.drop 24).drop 24).drop 24).take 24).all (fun c => isCode c || c.before args0 about1) = true := by decide +kernel
set_option maxRecDepth 65536 in
theorem w_t5 : ((((words1.drop 24).drop 24).drop 24).drop 24).all (fun c => isCode c || c.before args0 about1) = true := by decide +kernel
theorem w_tables : (allAtoms (Jvm.Cond.code x code maxLocals ret :: tables_1)).before args0 about1 = true := by
  rw [allAtoms_all]
  show words1.all (fun c => c.before args0 about1) = true
  refine all_split ?_ w_codes
  rw [← List.take_append_drop 24 words1, List.all_append, w_t1, ← List.take_append_drop 24 (words1.drop 24), List.all_append, w_t2, ← List.take_append_drop 24 ((words1.drop 24).drop 24), List.all_append, w_t3, ← List.take_append_drop 24 (((words1.drop 24).drop 24).drop 24), List.all_append, w_t4, w_t5]
  rfl
set_option maxRecDepth 65536 in
theorem w_case : (Jvm.Cond.and given_1 narrow_1).before args0 about1 = true := by decide +kernel
theorem w_applies : (headSpec (Jvm.Cond.code x code maxLocals ret :: tables_1) room_1).applies x e0.platform about1 = true :=
  (Spec.applies_iff w_frames).mpr ⟨w_running, w_runnable, w_alone, w_named, w_hears, w_ripe, w_room, w_tables⟩
theorem atStart : AtStart classFile x code maxLocals ret World_1 tables_1 room_1 Calls_1 rest_1 Pre_1 launch0 p0 e0 about1 theMethod args0 below0 :=
  ⟨lists_1, trivial, launch0.admits_env _ _ _, launch0.least_env, fairChoices_fair.cas, fairChoices_fair.clock, w_frames, w_args, w_heap, w_applies, trivial, trivial, w_case⟩
end start1
theorem witness_1 : WitnessClaimed_1 := ⟨start1.p0, start1.e0, start1.about1, start1.theMethod, start1.args0, start1.below0, start1.atStart⟩
end Jvm.Pilot.@@N@@
