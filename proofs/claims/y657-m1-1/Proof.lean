import JvmDerived
import JvmDerived.Pilot.@@N@@Statement
import JvmDerived.Pilot.@@N@@Code
set_option linter.unusedVariables false
set_option linter.unusedSimpArgs false
namespace Jvm.Pilot.@@N@@
open Jvm Jvm.ClassFile Sem Op Lib Jvm.Free Jvm.Stand Jvm.LawKit Jvm.RoadKit Bundle Jvm.Pilot.@@N@@.Jvm.D
section OwnKit
variable {p : Program} {l : Launch} {e : Env} {R : Room} {s : State} {m : MethodId} {args : Array Value} {below : List Frame} {meth : Method} {c : Code} {T : State} {locs : List Loc} {cells slots : Nat}
/-- from the state A the body runs to its end and leaves what Q says -/
def own_Go (p : Program) (e : Env) (below : List Frame) (s : State) (Q : Option Value → Heap → List Loc → Prop) (kc ks : Nat) (A : State) : Prop :=
  ∃ s₂ o, Steps p.tables e below A s₂ ∧ s₂.status = .running ∧ Ended s₂ below o ∧ ∃ v L, o = .returned v ∧ Q v s₂.heap L ∧ FrameEnd s o s₂ L kc ks
theorem own_go {Q : Option Value → Heap → List Loc → Prop} {kc ks : Nat} {A B : State} (h : ∀ t, Steps p.tables e below B t → Steps p.tables e below A t) (k : own_Go p e below s Q kc ks B) : own_Go p e below s Q kc ks A := by
  obtain ⟨s₂, o, h1, h2⟩ := k
  exact ⟨s₂, o, h _ h1, h2⟩
/-- from the state A the body runs to the frame g', the heap as it was -/
def own_Arm (p : Program) (l : Launch) (e : Env) (R : Room) (s : State) (m : MethodId) (args : Array Value) (below : List Frame) (meth : Method) (c : Code) (cells slots n0 : Nat) (h : Heap) (g' : JFrame) (A : State) : Prop :=
  ∃ (T' : State) (locs' : List Loc), Stand p l e R s m args below meth c T' locs' cells slots ∧ Fr n0 locs' ∧ T'.heap = h ∧ ∀ t, Steps p.tables e below (T'.setTop g') t → Steps p.tables e below A t
theorem own_arm {n0 : Nat} {h : Heap} {g' : JFrame} {A B : State} (k1 : ∀ t, Steps p.tables e below B t → Steps p.tables e below A t) (k : own_Arm p l e R s m args below meth c cells slots n0 h g' B) : own_Arm p l e R s m args below meth c cells slots n0 h g' A := by
  obtain ⟨T', locs', h1, h2, h3, h4⟩ := k
  exact ⟨T', locs', h1, h2, h3, fun t kt => k1 t (h4 t kt)⟩
theorem own_armEnd {n0 : Nat} {h : Heap} {g g' : JFrame} (X : Stand p l e R s m args below meth c T locs cells slots) (N : Fr n0 locs) (eT : T.heap = h) (q : g' = g) : own_Arm p l e R s m args below meth c cells slots n0 h g' (T.setTop g) :=
  ⟨T, locs, X, N, eT, fun t kt => q ▸ kt⟩
theorem own_mrg {n0 : Nat} {h : Heap} {g g' : JFrame} (X : Stand p l e R s m args below meth c T locs cells slots) (k : own_Arm p l e R s m args below meth c cells slots n0 h g' (T.setTop g)) :
    ∃ (T' : State) (locs' : List Loc), Stand p l e R s m args below meth c T' locs' cells slots ∧ Fr n0 locs' ∧ T'.heap = h ∧ ∀ t, Steps p.tables e below (T'.setTop g') t → Steps p.tables e below (T.setTop g) t := k
theorem own_leave {Q : Option Value → Heap → List Loc → Prop} {kc ks : Nat} {A : State} {v : Option Value} (X : Stand p l e R s m args below meth c T locs cells slots) (hv : meth.sig.returnType = none → v = none) (hlk : meth.locks = false)
    (hc : cells ≤ kc) (hs : slots ≤ ks) (hQ : Q v T.heap locs) (k : ∀ fs, (∀ (f : JFrame) (acts : List Action), f.method = m → f.locked = none → f.entered = [] → (doReturn e (T.setTop f) acts v).1 = T.setFrames fs) → Steps p.tables e below A (T.setFrames fs)) : own_Go p e below s Q kc ks A := by
  obtain ⟨fs, hr, hrun, hended, hW, hsame⟩ := X.leave (v := v) hv hlk
  exact ⟨_, _, k fs hr, hrun, hended, _, _, rfl, hQ, ⟨_, rfl⟩, hW, hsame.mono hc hs⟩
theorem own_retI {Q : Option Value → Heap → List Loc → Prop} {kc ks pc : Nat} {Ls : Array Slot} {z : Int32} {rest : List Value} (X : Stand p l e R s m args below meth c T locs cells slots) (hx : p.tables.exec = Jvm.exec) (hret : meth.sig.returnType = some .int) (hlk : meth.locks = false)
    (hd : decode c.code pc = .ok (.ireturn, 1)) (hc : cells ≤ kc) (hs : slots ≤ ks) (hQ : Q (some (.int z)) T.heap locs) : own_Go p e below s Q kc ks (T.setTop (mkF m pc Ls (.int z :: rest))) := by
  refine own_leave X (fun h => by rw [hret] at h; cases h) hlk hc hs hQ fun fs hl => ?_
  have hm' : T.vm.method? m = some meth := X.method'
  have hn : narrow .int (.int z) = .int z := rfl
  show Steps p.tables e below (T.setTop { method := m, pc := pc, locals := Ls, stack := _ :: rest, locked := none }) _
  jvm_step X.here [X.here.top, hx, hd, hm', hret, hn]
  first | (intro acts; rw [hl _ acts rfl rfl rfl]) | rw [hl _ _ rfl rfl rfl]
  exact Steps.refl _
theorem own_retN {Q : Option Value → Heap → List Loc → Prop} {kc ks pc : Nat} {Ls : Array Slot} {z : Int32} {rest : List Value} {t : FieldType} (X : Stand p l e R s m args below meth c T locs cells slots) (hx : p.tables.exec = Jvm.exec) (hret : meth.sig.returnType = some t) (ht : t = .boolean ∨ t = .byte ∨ t = .char ∨ t = .short) (hlk : meth.locks = false)
    (hd : decode c.code pc = .ok (.ireturn, 1)) (hc : cells ≤ kc) (hs : slots ≤ ks) (hQ : Q (some (.int (nar t z))) T.heap locs) : own_Go p e below s Q kc ks (T.setTop (mkF m pc Ls (.int z :: rest))) :=
  own_leave X (fun h => by rw [hret] at h; cases h) hlk hc hs hQ fun fs hl => retN X hx (t := t) hret ht hd hl
theorem own_nar01 {z : Int32} (h : z = 0 ∨ z = 1) : nar .boolean z = z := by rcases h with rfl | rfl <;> rfl
theorem own_retZ {Q : Option Value → Heap → List Loc → Prop} {kc ks pc : Nat} {Ls : Array Slot} {z : Int32} {rest : List Value} (X : Stand p l e R s m args below meth c T locs cells slots) (hx : p.tables.exec = Jvm.exec) (hret : meth.sig.returnType = some .boolean) (hlk : meth.locks = false)
    (hd : decode c.code pc = .ok (.ireturn, 1)) (hc : cells ≤ kc) (hs : slots ≤ ks) (hz : z = 0 ∨ z = 1) (hQ : Q (some (.int z)) T.heap locs) : own_Go p e below s Q kc ks (T.setTop (mkF m pc Ls (.int z :: rest))) :=
  own_retN X hx hret (Or.inl rfl) hlk hd hc hs (by rw [own_nar01 hz]; exact hQ)
theorem own_retJ {Q : Option Value → Heap → List Loc → Prop} {kc ks pc : Nat} {Ls : Array Slot} {z : Int64} (X : Stand p l e R s m args below meth c T locs cells slots) (hx : p.tables.exec = Jvm.exec) (hret : meth.sig.returnType = some .long) (hlk : meth.locks = false)
    (hd : decode c.code pc = .ok (.lreturn, 1)) (hc : cells ≤ kc) (hs : slots ≤ ks) (hQ : Q (some (.long z)) T.heap locs) : own_Go p e below s Q kc ks (T.setTop (mkF m pc Ls [.long z])) :=
  own_leave X (fun h => by rw [hret] at h; cases h) hlk hc hs hQ fun fs hl => X.lreturnOut hx hret hd hl
theorem own_retA {Q : Option Value → Heap → List Loc → Prop} {kc ks pc : Nat} {Ls : Array Slot} {w : Value} {t : FieldType} {rest : List Value} (X : Stand p l e R s m args below meth c T locs cells slots) (hx : p.tables.exec = Jvm.exec) (hret : meth.sig.returnType = some t) (ht : t.isReference = true) (hw : w.isRef = true) (hlk : meth.locks = false)
    (hd : decode c.code pc = .ok (.areturn, 1)) (hc : cells ≤ kc) (hs : slots ≤ ks) (hQ : Q (some w) T.heap locs) : own_Go p e below s Q kc ks (T.setTop (mkF m pc Ls (w :: rest))) := by
  refine own_leave X (fun h => by rw [hret] at h; cases h) hlk hc hs hQ fun fs hl => ?_
  have hm' : T.vm.method? m = some meth := X.method'
  show Steps p.tables e below (T.setTop { method := m, pc := pc, locals := Ls, stack := _ :: rest, locked := none }) _
  rcases ref_cases hw with rfl | ⟨a, rfl⟩
  all_goals
    jvm_step X.here [X.here.top, hx, hd, hm', hret, Value.isRef, ht]
    first | (intro acts; rw [hl _ acts rfl rfl rfl]) | rw [hl _ _ rfl rfl rfl]
    exact Steps.refl _
theorem own_retV {Q : Option Value → Heap → List Loc → Prop} {kc ks pc : Nat} {Ls : Array Slot} (X : Stand p l e R s m args below meth c T locs cells slots) (hx : p.tables.exec = Jvm.exec) (hret : meth.sig.returnType = none) (hlk : meth.locks = false)
    (hd : decode c.code pc = .ok (.return_, 1)) (hc : cells ≤ kc) (hs : slots ≤ ks) (hQ : Q none T.heap locs) : own_Go p e below s Q kc ks (T.setTop (mkF m pc Ls [])) :=
  own_leave X (fun _ => rfl) hlk hc hs hQ fun fs hl => X.returnOut hx hret hd hl
theorem own_getFR {Z : State} {a0 : Array Value} {h : Heap} (X : Stand p l e R s m args below meth c T locs cells slots) (hx : p.tables.exec = Jvm.exec) (hZ : Z.Warmed39 s.vm) {own O n d : String} {index : Nat} (hown : s.vm.findClass own = some m.cls) (w : (Jvm.Cond.fieldRef own index O n d).before a0 Z = true)
    (eT : T.heap = h) {a : Addr} {v : Value} (F : Fld Z h a O n d v) {g : JFrame} (hg : g.method = m) {rest : List Value} (hs : g.stack = .ref a :: rest) (hd : decode c.code g.pc = .ok (.getfield index, 3)) (target : State) (k : Steps p.tables e below (T.setTop { g with pc := g.pc + 3, stack := v :: rest }) target) : Steps p.tables e below (T.setTop g) target := by
  obtain ⟨cell, cf, kc, i, f, h1, h2, h3, h4, -, -, h7⟩ := F
  have hW : Z.Warmed39 T.vm := wtrans hZ X.warmed
  have w2 := Cond.fieldRef_warmed39 hW w
  obtain ⟨k', hi, -⟩ := State.fieldFound?_setVm (s := Z) hW.alike h2
  have hc : (Z.setVm T.vm).vm.findClass own = some m.cls := by show T.vm.findClass own = _; rw [X.warmed.alike.findClass]; exact hown
  obtain ⟨c1, k1, i1, f1, e1, hr⟩ := Cond.fieldRef_spec hc w2
  cases hi.symm.trans e1
  exact (X.getfieldR hx hg (cF := cf) (field := f) hr h3 hs (by rw [eT]; exact h1) h4 h7 hd (Steps.refl _)).trans k
theorem own_ite01 {c : Prop} [Decidable c] {a b : Int32} (ha : a = 0 ∨ a = 1) (hb : b = 0 ∨ b = 1) : (if c then a else b) = 0 ∨ (if c then a else b) = 1 := by split <;> assumption
end OwnKit
theorem own_remI (a b : Int32) : a - a / b * b = a % b := by
  apply Int32.toInt_inj.mp
  rw [Int32.toInt_sub, Int32.toInt_mul, Int32.toInt_div, Int32.toInt_mod]
  rw [Int.bmod_mul_bmod, Int.sub_bmod_bmod]
  have e : a.toInt - a.toInt.tdiv b.toInt * b.toInt = a.toInt.tmod b.toInt := by
    have := Int.mul_tdiv_add_tmod a.toInt b.toInt
    rw [Int.mul_comm] at this
    omega
  rw [e, ← Int32.toInt_mod]
  exact Int.bmod_eq_of_le (by have := Int32.le_toInt (a % b); omega) (by have := Int32.toInt_lt (a % b); omega)
theorem own_remJ (a b : Int64) : a - a / b * b = a % b := by
  apply Int64.toInt_inj.mp
  rw [Int64.toInt_sub, Int64.toInt_mul, Int64.toInt_div, Int64.toInt_mod]
  rw [Int.bmod_mul_bmod, Int.sub_bmod_bmod]
  have e : a.toInt - a.toInt.tdiv b.toInt * b.toInt = a.toInt.tmod b.toInt := by
    have := Int.mul_tdiv_add_tmod a.toInt b.toInt
    rw [Int.mul_comm] at this
    omega
  rw [e, ← Int64.toInt_mod]
  exact Int.bmod_eq_of_le (by have := Int64.le_toInt (a % b); omega) (by have := Int64.toInt_lt (a % b); omega)
theorem own_lc_eq {a b : Int64} (h : a = b) : lcmpW a b = 0 := by subst h; simp [lcmpW]
theorem own_lc_neq {a b : Int64} (h : ¬ (a = b)) : ¬ (lcmpW a b = 0) := by unfold lcmpW; split <;> first | decide | (rw [if_neg h]; decide)
theorem own_lc_lt {a b : Int64} (h : a < b) : lcmpW a b < 0 := by
  have h1 : ¬ (a > b) := fun q => Int64.lt_irrefl (Int64.lt_trans h q)
  have h2 : ¬ (a = b) := fun q => by subst q; exact Int64.lt_irrefl h
  rw [lcmpW, if_neg h1, if_neg h2]; decide
theorem own_lc_nlt {a b : Int64} (h : ¬ (a < b)) : ¬ (lcmpW a b < 0) := by
  unfold lcmpW
  split
  · decide
  · rename_i h1
    split
    · decide
    · rename_i h2; exact absurd (Int64.le_antisymm (Int64.not_lt.mp h1) (Int64.not_lt.mp h)) h2
theorem own_lc_gt {a b : Int64} (h : b < a) : (0 : Int32) < lcmpW a b := by rw [lcmpW, if_pos h]; decide
theorem own_lc_ngt {a b : Int64} (h : ¬ (b < a)) : ¬ ((0 : Int32) < lcmpW a b) := by
  rw [lcmpW, if_neg h]; split <;> decide
theorem own_rn {w : Value} {C : String} (h : w.isRef = true) : narrow (.object C) w = w := by rcases ref_cases h with rfl | ⟨a, rfl⟩ <;> rfl
theorem own_rf {w : Value} {C : String} (h : w.isRef = true) : fits (.object C) w = true := by rcases ref_cases h with rfl | ⟨a, rfl⟩ <;> rfl
theorem own_plainE {Z : State} {h : Heap} {a : Addr} {C : String} (E : Exa Z h a C) : ∀ cell : Cell, h[a]? = some cell → cell.vm.isStatics = false := fun cell hc => by
  obtain ⟨c, k, h1, -, -, h4, -⟩ := E
  cases h1.symm.trans hc; exact h4
theorem own_staKeep {Z : State} {h h' : Heap} {C n d : String} {v : Value} {ws : List Addr} (F : Sta Z h C n d v) (K : Keep h h' ws) (q : ∀ x ∈ ws, ∀ cell : Cell, h[x]? = some cell → cell.vm.isStatics = false) : Sta Z h' C n d v := by
  obtain ⟨cf, i, k, f, st, cell, h1, h2, h3, h4, h5, h6, h7⟩ := F
  exact ⟨cf, i, k, f, st, cell, h1, h2, h3, h4, K.2.1 st cell h5 (fun hm => by rw [q st hm cell h5] at h6; cases h6), h6, h7⟩
def own_up {α : Type} (f : Nat → α) (i : Nat) (v : α) : Nat → α := fun k => if k = i then v else f k
def own_AI (Z : State) (h : Heap) (a : Addr) (ty : FieldType) (n : Nat) (f : Nat → Int32) : Prop := ∃ c : Cell, Arr Z h a c ty ∧ c.slots.size = n ∧ n < 2 ^ 31 ∧ ∀ j, j < n → c.slots[j]? = some (.int (f j))
theorem own_AI.lt {Z : State} {h : Heap} {a : Addr} {ty : FieldType} {n : Nat} {f : Nat → Int32} (F : own_AI Z h a ty n f) : a < h.size := by obtain ⟨c, A, -⟩ := F; exact A.lt
theorem own_AI.ext {Z : State} {h h' : Heap} {a : Addr} {ty : FieldType} {n : Nat} {f : Nat → Int32} (F : own_AI Z h a ty n f) (E : Ext h h') : own_AI Z h' a ty n f := by obtain ⟨c, A, r⟩ := F; exact ⟨c, A.ext E, r⟩
theorem own_AI.other {Z : State} {h h' : Heap} {a b : Addr} {ty : FieldType} {n sl : Nat} {w : Value} {f : Nat → Int32} (F : own_AI Z h a ty n f) (W : Wr h h' b sl w) (q : a ≠ b) : own_AI Z h' a ty n f := by obtain ⟨c, A, r⟩ := F; exact ⟨c, A.other W q, r⟩
theorem own_AI.keep {Z : State} {h h' : Heap} {a : Addr} {ty : FieldType} {n : Nat} {ws : List Addr} {f : Nat → Int32} (F : own_AI Z h a ty n f) (K : Keep h h' ws) (q : a ∉ ws) : own_AI Z h' a ty n f := by obtain ⟨c, A, r⟩ := F; exact ⟨c, ⟨K.2.1 a c A.1 q, A.2⟩, r⟩
theorem own_plainAI {Z : State} {h : Heap} {a : Addr} {ty : FieldType} {n : Nat} {f : Nat → Int32} (F : own_AI Z h a ty n f) : ∀ cell : Cell, h[a]? = some cell → cell.vm.isStatics = false := fun cell hc => by
  obtain ⟨c, A, -⟩ := F
  cases A.1.symm.trans hc; exact A.plain
theorem own_AI.wr {Z : State} {h h' : Heap} {a : Addr} {ty : FieldType} {n i : Nat} {x : Int32} {f : Nat → Int32} (F : own_AI Z h a ty n f) (W : Wr h h' a i (.int x)) : own_AI Z h' a ty n (own_up f i x) := by
  obtain ⟨c, A, S, B, H⟩ := F
  refine ⟨_, A.same W, by rw [sz_set]; exact S, B, fun j hj => ?_⟩
  show (c.slots.setIfInBounds i _)[j]? = _
  rw [Array.getElem?_setIfInBounds]
  by_cases q : i = j
  · subst q
    rw [if_pos rfl, if_pos (by rw [S]; exact hj)]; simp [own_up]
  · rw [if_neg q, H j hj, own_up, if_neg (fun e => q e.symm)]
theorem own_AI.new {Z : State} {h : Heap} {a : Addr} {k : ClassId} {ty : FieldType} {z : Int32} {n : Nat} (A : Arr Z h a (newA k ty z) ty) (hd : defaultValue ty = .int 0) (hn : z.toNatClampNeg = n) : own_AI Z h a ty n (fun _ => 0) := by
  refine ⟨_, A, by rw [sz_new]; exact hn, ?_, fun j hj => ?_⟩
  · have := Int32.toInt_lt z; rw [← hn]; unfold Int32.toNatClampNeg; omega
  · have hs : (newA k ty z).slots.size = n := by rw [sz_new]; exact hn
    simp only [newA] at hs ⊢
    rw [Array.getElem?_replicate, if_pos (by rw [hn]; exact hj), hd]
def own_AJ (Z : State) (h : Heap) (a : Addr) (ty : FieldType) (n : Nat) (f : Nat → Int64) : Prop := ∃ c : Cell, Arr Z h a c ty ∧ c.slots.size = n ∧ n < 2 ^ 31 ∧ ∀ j, j < n → c.slots[j]? = some (.long (f j))
theorem own_AJ.lt {Z : State} {h : Heap} {a : Addr} {ty : FieldType} {n : Nat} {f : Nat → Int64} (F : own_AJ Z h a ty n f) : a < h.size := by obtain ⟨c, A, -⟩ := F; exact A.lt
theorem own_AJ.ext {Z : State} {h h' : Heap} {a : Addr} {ty : FieldType} {n : Nat} {f : Nat → Int64} (F : own_AJ Z h a ty n f) (E : Ext h h') : own_AJ Z h' a ty n f := by obtain ⟨c, A, r⟩ := F; exact ⟨c, A.ext E, r⟩
theorem own_AJ.other {Z : State} {h h' : Heap} {a b : Addr} {ty : FieldType} {n sl : Nat} {w : Value} {f : Nat → Int64} (F : own_AJ Z h a ty n f) (W : Wr h h' b sl w) (q : a ≠ b) : own_AJ Z h' a ty n f := by obtain ⟨c, A, r⟩ := F; exact ⟨c, A.other W q, r⟩
theorem own_AJ.keep {Z : State} {h h' : Heap} {a : Addr} {ty : FieldType} {n : Nat} {ws : List Addr} {f : Nat → Int64} (F : own_AJ Z h a ty n f) (K : Keep h h' ws) (q : a ∉ ws) : own_AJ Z h' a ty n f := by obtain ⟨c, A, r⟩ := F; exact ⟨c, ⟨K.2.1 a c A.1 q, A.2⟩, r⟩
theorem own_plainAJ {Z : State} {h : Heap} {a : Addr} {ty : FieldType} {n : Nat} {f : Nat → Int64} (F : own_AJ Z h a ty n f) : ∀ cell : Cell, h[a]? = some cell → cell.vm.isStatics = false := fun cell hc => by
  obtain ⟨c, A, -⟩ := F
  cases A.1.symm.trans hc; exact A.plain
theorem own_AJ.wr {Z : State} {h h' : Heap} {a : Addr} {ty : FieldType} {n i : Nat} {x : Int64} {f : Nat → Int64} (F : own_AJ Z h a ty n f) (W : Wr h h' a i (.long x)) : own_AJ Z h' a ty n (own_up f i x) := by
  obtain ⟨c, A, S, B, H⟩ := F
  refine ⟨_, A.same W, by rw [sz_set]; exact S, B, fun j hj => ?_⟩
  show (c.slots.setIfInBounds i _)[j]? = _
  rw [Array.getElem?_setIfInBounds]
  by_cases q : i = j
  · subst q
    rw [if_pos rfl, if_pos (by rw [S]; exact hj)]; simp [own_up]
  · rw [if_neg q, H j hj, own_up, if_neg (fun e => q e.symm)]
theorem own_AJ.new {Z : State} {h : Heap} {a : Addr} {k : ClassId} {ty : FieldType} {z : Int32} {n : Nat} (A : Arr Z h a (newA k ty z) ty) (hd : defaultValue ty = .long 0) (hn : z.toNatClampNeg = n) : own_AJ Z h a ty n (fun _ => 0) := by
  refine ⟨_, A, by rw [sz_new]; exact hn, ?_, fun j hj => ?_⟩
  · have := Int32.toInt_lt z; rw [← hn]; unfold Int32.toNatClampNeg; omega
  · have hs : (newA k ty z).slots.size = n := by rw [sz_new]; exact hn
    simp only [newA] at hs ⊢
    rw [Array.getElem?_replicate, if_pos (by rw [hn]; exact hj), hd]
section OwnArr
variable {p : Program} {l : Launch} {e : Env} {R : Room} {s : State} {m : MethodId} {args : Array Value} {below : List Frame} {meth : Method} {c : Code} {T : State} {locs : List Loc} {cells slots : Nat} {Z : State} {h : Heap}
theorem own_inb {j : Int32} {n k : Nat} (S : k = n) (hj : ¬ j < 0 ∧ j.toNatClampNeg < n) : ¬ (j < 0 ∨ k ≤ j.toNatClampNeg) := fun q => q.elim hj.1 (fun u => absurd hj.2 (by omega))
theorem own_ldI (X : Stand p l e R s m args below meth c T locs cells slots) (hx : p.tables.exec = Jvm.exec) (hZ : Z.Warmed39 s.vm) (eT : T.heap = h) {a : Addr} {n : Nat} {f : Nat → Int32} (A : own_AI Z h a .int n f) {j : Int32} (hj : ¬ j < 0 ∧ j.toNatClampNeg < n)
    {g : JFrame} (hg : g.method = m) {rest : List Value} (hs : g.stack = .int j :: .ref a :: rest) (hd : decode c.code g.pc = .ok (.iaload, 1)) (target : State) (k : Steps p.tables e below (T.setTop { g with pc := g.pc + 1, stack := .int (f j.toNatClampNeg) :: rest }) target) : Steps p.tables e below (T.setTop g) target := by
  obtain ⟨c', Ar, S, -, H⟩ := A
  exact X.iaload hx (by rw [eT]; exact Ar.1) (State.isArrayOf_alike hZ.alike Ar.2.1) Ar.2.2 (own_inb S hj) (H _ hj.2) hg hs hd target k
theorem own_ldB (X : Stand p l e R s m args below meth c T locs cells slots) (hx : p.tables.exec = Jvm.exec) (hZ : Z.Warmed39 s.vm) (eT : T.heap = h) {a : Addr} {n : Nat} {f : Nat → Int32} (A : own_AI Z h a .byte n f) {j : Int32} (hj : ¬ j < 0 ∧ j.toNatClampNeg < n)
    {g : JFrame} (hg : g.method = m) {rest : List Value} (hs : g.stack = .int j :: .ref a :: rest) (hd : decode c.code g.pc = .ok (.baload, 1)) (target : State) (k : Steps p.tables e below (T.setTop { g with pc := g.pc + 1, stack := .int (f j.toNatClampNeg) :: rest }) target) : Steps p.tables e below (T.setTop g) target := by
  obtain ⟨c', Ar, S, -, H⟩ := A
  exact X.baloadBytes hx (by rw [eT]; exact Ar.1) (State.isArrayOf_alike hZ.alike Ar.2.1) Ar.2.2 (own_inb S hj) (H _ hj.2) hg hs hd target k
theorem own_ldJ (X : Stand p l e R s m args below meth c T locs cells slots) (hx : p.tables.exec = Jvm.exec) (hZ : Z.Warmed39 s.vm) (eT : T.heap = h) {a : Addr} {n : Nat} {f : Nat → Int64} (A : own_AJ Z h a .long n f) {j : Int32} (hj : ¬ j < 0 ∧ j.toNatClampNeg < n)
    {g : JFrame} (hg : g.method = m) {rest : List Value} (hs : g.stack = .int j :: .ref a :: rest) (hd : decode c.code g.pc = .ok (.laload, 1)) (target : State) (k : Steps p.tables e below (T.setTop { g with pc := g.pc + 1, stack := .long (f j.toNatClampNeg) :: rest }) target) : Steps p.tables e below (T.setTop g) target := by
  obtain ⟨c', Ar, S, -, H⟩ := A
  exact X.laload hx (by rw [eT]; exact Ar.1) (State.isArrayOf_alike hZ.alike Ar.2.1) Ar.2.2 (own_inb S hj) (H _ hj.2) hg hs hd target k
theorem own_lenI (X : Stand p l e R s m args below meth c T locs cells slots) (hx : p.tables.exec = Jvm.exec) (hZ : Z.Warmed39 s.vm) (eT : T.heap = h) {a : Addr} {ty : FieldType} {n : Nat} {f : Nat → Int32} (A : own_AI Z h a ty n f)
    {g : JFrame} (hg : g.method = m) {rest : List Value} (hs : g.stack = .ref a :: rest) (hd : decode c.code g.pc = .ok (.arraylength, 1)) (target : State) (k : Steps p.tables e below (T.setTop { g with pc := g.pc + 1, stack := .int (n.toInt32) :: rest }) target) : Steps p.tables e below (T.setTop g) target := by
  obtain ⟨c', Ar, S, -, H⟩ := A
  exact X.arraylength hx (by rw [eT]; exact Ar.1) (State.isArrayOf_alike hZ.alike Ar.2.1) hg hs hd target (by rw [S]; exact k)
theorem own_lenJ (X : Stand p l e R s m args below meth c T locs cells slots) (hx : p.tables.exec = Jvm.exec) (hZ : Z.Warmed39 s.vm) (eT : T.heap = h) {a : Addr} {ty : FieldType} {n : Nat} {f : Nat → Int64} (A : own_AJ Z h a ty n f)
    {g : JFrame} (hg : g.method = m) {rest : List Value} (hs : g.stack = .ref a :: rest) (hd : decode c.code g.pc = .ok (.arraylength, 1)) (target : State) (k : Steps p.tables e below (T.setTop { g with pc := g.pc + 1, stack := .int (n.toInt32) :: rest }) target) : Steps p.tables e below (T.setTop g) target := by
  obtain ⟨c', Ar, S, -, H⟩ := A
  exact X.arraylength hx (by rw [eT]; exact Ar.1) (State.isArrayOf_alike hZ.alike Ar.2.1) hg hs hd target (by rw [S]; exact k)
theorem own_stI (X : Stand p l e R s m args below meth c T locs cells slots) (hx : p.tables.exec = Jvm.exec) (hZ : Z.Warmed39 s.vm) (eT : T.heap = h) {a : Addr} {n : Nat} {f : Nat → Int32} (A : own_AI Z h a .int n f) {j x : Int32} (hj : ¬ j < 0 ∧ j.toNatClampNeg < n)
    {g : JFrame} (hg : g.method = m) {rest : List Value} (hs : g.stack = .int x :: .int j :: .ref a :: rest) (hd : decode c.code g.pc = .ok (.iastore, 1)) :
    ∃ T' h', Stand p l e R s m args below meth c T' (locs ++ [⟨a, j.toNatClampNeg⟩]) cells slots ∧ T'.heap = h' ∧ Wr h h' a j.toNatClampNeg (.int x) ∧ own_AI Z h' a .int n (own_up f j.toNatClampNeg x) ∧ ∀ target, Steps p.tables e below (T'.setTop { g with pc := g.pc + 1, stack := rest }) target → Steps p.tables e below (T.setTop g) target := by
  have A2 := A
  obtain ⟨c', Ar, S, -, H⟩ := A
  obtain ⟨T', h', X', e', W, st⟩ := stI X hx hZ eT Ar (j := j) (x := x) (own_inb S hj) hg hs hd
  exact ⟨T', h', X', e', W, A2.wr W, st⟩
theorem own_stB (X : Stand p l e R s m args below meth c T locs cells slots) (hx : p.tables.exec = Jvm.exec) (hZ : Z.Warmed39 s.vm) (eT : T.heap = h) {a : Addr} {n : Nat} {f : Nat → Int32} (A : own_AI Z h a .byte n f) {j x : Int32} (hj : ¬ j < 0 ∧ j.toNatClampNeg < n)
    {g : JFrame} (hg : g.method = m) {rest : List Value} (hs : g.stack = .int x :: .int j :: .ref a :: rest) (hd : decode c.code g.pc = .ok (.bastore, 1)) :
    ∃ T' h', Stand p l e R s m args below meth c T' (locs ++ [⟨a, j.toNatClampNeg⟩]) cells slots ∧ T'.heap = h' ∧ Wr h h' a j.toNatClampNeg (.int (nar .byte x)) ∧ own_AI Z h' a .byte n (own_up f j.toNatClampNeg (nar .byte x)) ∧ ∀ target, Steps p.tables e below (T'.setTop { g with pc := g.pc + 1, stack := rest }) target → Steps p.tables e below (T.setTop g) target := by
  have A2 := A
  obtain ⟨c', Ar, S, -, H⟩ := A
  obtain ⟨T', h', X', e', W, st⟩ := stB X hx hZ eT Ar (j := j) (x := x) (own_inb S hj) hg hs hd
  exact ⟨T', h', X', e', W, A2.wr W, st⟩
theorem own_stC (X : Stand p l e R s m args below meth c T locs cells slots) (hx : p.tables.exec = Jvm.exec) (hZ : Z.Warmed39 s.vm) (eT : T.heap = h) {a : Addr} {n : Nat} {f : Nat → Int32} (A : own_AI Z h a .char n f) {j x : Int32} (hj : ¬ j < 0 ∧ j.toNatClampNeg < n)
    {g : JFrame} (hg : g.method = m) {rest : List Value} (hs : g.stack = .int x :: .int j :: .ref a :: rest) (hd : decode c.code g.pc = .ok (.castore, 1)) :
    ∃ T' h', Stand p l e R s m args below meth c T' (locs ++ [⟨a, j.toNatClampNeg⟩]) cells slots ∧ T'.heap = h' ∧ Wr h h' a j.toNatClampNeg (.int (nar .char x)) ∧ own_AI Z h' a .char n (own_up f j.toNatClampNeg (nar .char x)) ∧ ∀ target, Steps p.tables e below (T'.setTop { g with pc := g.pc + 1, stack := rest }) target → Steps p.tables e below (T.setTop g) target := by
  have A2 := A
  obtain ⟨c', Ar, S, -, H⟩ := A
  obtain ⟨T', h', X', e', W, st⟩ := stC X hx hZ eT Ar (j := j) (x := x) (own_inb S hj) hg hs hd
  exact ⟨T', h', X', e', W, A2.wr W, st⟩
theorem own_stJ (X : Stand p l e R s m args below meth c T locs cells slots) (hx : p.tables.exec = Jvm.exec) (hZ : Z.Warmed39 s.vm) (eT : T.heap = h) {a : Addr} {n : Nat} {f : Nat → Int64} (A : own_AJ Z h a .long n f) {j : Int32} {x : Int64} (hj : ¬ j < 0 ∧ j.toNatClampNeg < n)
    {g : JFrame} (hg : g.method = m) {rest : List Value} (hs : g.stack = .long x :: .int j :: .ref a :: rest) (hd : decode c.code g.pc = .ok (.lastore, 1)) :
    ∃ T' h', Stand p l e R s m args below meth c T' (locs ++ [⟨a, j.toNatClampNeg⟩]) cells slots ∧ T'.heap = h' ∧ Wr h h' a j.toNatClampNeg (.long x) ∧ own_AJ Z h' a .long n (own_up f j.toNatClampNeg x) ∧ ∀ target, Steps p.tables e below (T'.setTop { g with pc := g.pc + 1, stack := rest }) target → Steps p.tables e below (T.setTop g) target := by
  have A2 := A
  obtain ⟨c', Ar, S, -, H⟩ := A
  obtain ⟨T', h', X', e', W, st⟩ := stJ X hx hZ eT Ar (j := j) (x := x) (own_inb S hj) hg hs hd
  exact ⟨T', h', X', e', W, A2.wr W, st⟩
end OwnArr
theorem own_notins {Z : State} {a0 : Array Value} (hw : ∀ d ∈ tables_1, d.before a0 Z = true) : ∃ c t, Z.vm.findClass "java/lang/Long" = some c ∧ Z.vm.findClass "com/example/millrace/millrace/queue/JournalClock" = some t ∧ Z.vm.assignable c t = false := by
  obtain ⟨t, kt, t1, t2, t3, t4, -⟩ := Cond.instantiable_spec (hw _ (List.mem_of_getElem? (i := 1) rfl))
  have t5 : kt.isInterface = false := by
    cases q : kt.isInterface
    · rfl
    · rw [q] at t4; cases t4
  have ns0 : NS Z "java/lang/Object" "com/example/millrace/millrace/queue/JournalClock" := by
    obtain ⟨c, k, h1, h2, h3, -, -⟩ := Cond.noSuperclass_spec (hw _ (List.mem_of_getElem? (i := 50) rfl))
    have ne := ids_ne h1 t1 (by decide)
    refine ⟨c, t, h1, t1, fun fuel => ?_⟩
    cases fuel with
    | zero => rfl
    | succ f => simp [Vm.isSubclassAux, ne, h2, h3]
  have ns1 := NS.step (hw _ (List.mem_of_getElem? (i := 49) rfl)) ns0 (by decide)
  obtain ⟨c, t', h0, g0, n3⟩ := NS.step (hw _ (List.mem_of_getElem? (i := 48) rfl)) ns1 (by decide)
  cases t1.symm.trans g0
  obtain ⟨p, k, kp, h1, h2, h3, h4, h5, -, h7⟩ := Cond.superclass_spec h0 (hw _ (List.mem_of_getElem? (i := 48) rfl))
  have ne := ids_ne h0 t1 (by decide)
  refine ⟨c, t, h0, t1, ?_⟩
  show Z.vm.assignableAux (255 + 1) c t = false
  simp [Vm.assignableAux, ne, h2, t2, h5, t3, t5, Vm.isSubclass, n3]
theorem d1_0 : decode prog_19_method_2_code 0 = .ok (.aload_n 0, 1) := by decide +kernel
theorem d1_1 : decode prog_19_method_2_code 1 = .ok (.invokespecial 1, 3) := by decide +kernel
theorem d1_4 : decode prog_19_method_2_code 4 = .ok (.aload_n 0, 1) := by decide +kernel
theorem d1_5 : decode prog_19_method_2_code 5 = .ok (.ldc2_w 9, 3) := by decide +kernel
theorem d1_8 : decode prog_19_method_2_code 8 = .ok (.putfield 11, 3) := by decide +kernel
theorem d1_11 : decode prog_19_method_2_code 11 = .ok (.aload_n 0, 1) := by decide +kernel
theorem d1_12 : decode prog_19_method_2_code 12 = .ok (.ldc2_w 9, 3) := by decide +kernel
theorem d1_15 : decode prog_19_method_2_code 15 = .ok (.putfield 17, 3) := by decide +kernel
theorem d1_18 : decode prog_19_method_2_code 18 = .ok (.aload_n 0, 1) := by decide +kernel
theorem d1_19 : decode prog_19_method_2_code 19 = .ok (.lload_n 1, 1) := by decide +kernel
theorem d1_20 : decode prog_19_method_2_code 20 = .ok (.putfield 11, 3) := by decide +kernel
theorem d1_23 : decode prog_19_method_2_code 23 = .ok (.aload_n 0, 1) := by decide +kernel
theorem d1_24 : decode prog_19_method_2_code 24 = .ok (.lload_n 3, 1) := by decide +kernel
theorem d1_25 : decode prog_19_method_2_code 25 = .ok (.putfield 17, 3) := by decide +kernel
theorem d1_28 : decode prog_19_method_2_code 28 = .ok (.aload_n 0, 1) := by decide +kernel
theorem d1_29 : decode prog_19_method_2_code 29 = .ok (.lload 5, 2) := by decide +kernel
theorem d1_31 : decode prog_19_method_2_code 31 = .ok (.putfield 20, 3) := by decide +kernel
theorem d1_34 : decode prog_19_method_2_code 34 = .ok (.return_, 1) := by decide +kernel
theorem ef_1 (m : MethodId) (r0 : Addr) (q1 : Int64) (q2 : Int64) (q3 : Int64) : entryFrame m #[(.ref r0), (.long q1), (.long q2), (.long q3)] 7 = mkF m 0 #[.val (.ref r0), .val (.long q1), .second, .val (.long q2), .second, .val (.long q3), .second] [] := by (first | (simp [entryFrame, mkF, argsToLocals, Value.category]; done) | rfl)
theorem pn0 : plainName "com/example/millrace/millrace/queue/JournalClock" = true := by first | (simp [plainName, overriddenIn]; done) | decide +kernel
def Q1 (Z : State) (r0 : Addr) (q1 : Int64) (q2 : Int64) (q3 : Int64) (w4 : Int64) (w5 : Int64) (w6 : Int64) (h0 : Heap) (n0 : Nat) (v : Option Value) (h : Heap) (L : List Loc) : Prop := v = none ∧ Fr n0 L ∧ Keep h0 h [r0] ∧ Exa Z h r0 "com/example/millrace/millrace/queue/JournalClock" ∧ Fld Z h r0 "com/example/millrace/millrace/queue/JournalClock" "latestMillis" "J" (.long q1) ∧ Fld Z h r0 "com/example/millrace/millrace/queue/JournalClock" "millis" "J" (.long q2) ∧ Fld Z h r0 "com/example/millrace/millrace/queue/JournalClock" "leadMillis" "J" (.long q3)
set_option maxRecDepth 65536 in
set_option maxHeartbeats 40000000 in
theorem rm1 (l : Launch) (Z : State) (a0 : Array Value) (hw : ∀ d ∈ tables_1, d.before a0 Z = true) (ws : List Jvm.Cond) (r0 : Addr) (q1 : Int64) (q2 : Int64) (q3 : Int64) (w4 : Int64) (w5 : Int64) (w6 : Int64) (h0 : Heap) (n0 : Nat) (Z0 : n0 ≤ h0.size) (E_r0 : Exa Z h0 r0 "com/example/millrace/millrace/queue/JournalClock") (F_latestMillis_r0 : Fld Z h0 r0 "com/example/millrace/millrace/queue/JournalClock" "latestMillis" "J" (.long w4)) (F_millis_r0 : Fld Z h0 r0 "com/example/millrace/millrace/queue/JournalClock" "millis" "J" (.long w5)) (F_leadMillis_r0 : Fld Z h0 r0 "com/example/millrace/millrace/queue/JournalClock" "leadMillis" "J" (.long w6)) (g_r0 : n0 ≤ r0) :
    MetFree l (⟨"com/example/millrace/millrace/queue/JournalClock", "<init>", "(JJJ)V"⟩ : MethodName) (head1 (Jvm.Cond.code (⟨"com/example/millrace/millrace/queue/JournalClock", "<init>", "(JJJ)V"⟩ : MethodName) prog_19_method_2_code 7 none :: ws) ({ frames := 1, cells := 0, slots := 0, locals := 12 } : Room)) (fun a U => a = #[(.ref r0), (.long q1), (.long q2), (.long q3)] ∧ Z.Warmed39 U.vm ∧ U.heap = h0) (fun _ _ _ _ _ => True) (fun _ U o U' => ∃ v L, o = .returned v ∧ Q1 Z r0 q1 q2 q3 w4 w5 w6 h0 n0 v U'.heap L ∧ FrameEnd U o U' L ({ frames := 1, cells := 0, slots := 0, locals := 12 } : Room).cells ({ frames := 1, cells := 0, slots := 0, locals := 12 } : Room).slots) := by
  refine MetFree.of_bodySF (plainFor_of_name pn0) hisR ?_
  intro p e s m args below meth c s₁ Bd hml0 hP hK
  obtain ⟨rfl, hZ, hh⟩ := hP
  have hx := Bd.exec
  have hby := Bd.bytes
  have hml : c.maxLocals = 7 := hml0
  have hown : s.vm.findClass "com/example/millrace/millrace/queue/JournalClock" = some m.cls := findClass_of_methodNamed Bd.named
  have hnm := (name_of_methodNamed Bd.named Bd.method).1
  have X0 : Stand p l e ({ frames := 1, cells := 0, slots := 0, locals := 12 } : Room) s m #[(.ref r0), (.long q1), (.long q2), (.long q3)] below meth c s₁ [] 0 0 := Stand.of_body Bd
  have e0 : s₁.heap = h0 := by rw [← hh, Bd.state]; rfl
  have N0 := Fr.nil n0
  have K0 : Keep h0 h0 [r0] := Keep.refl h0 _
  show own_Go p e below s (Q1 Z r0 q1 q2 q3 w4 w5 w6 h0 n0) ({ frames := 1, cells := 0, slots := 0, locals := 12 } : Room).cells ({ frames := 1, cells := 0, slots := 0, locals := 12 } : Room).slots (s₁.setTop (entryFrame m #[(.ref r0), (.long q1), (.long q2), (.long q3)] 7))
  refine own_go (fun t k => castTop (ef_1 m r0 q1 q2 q3) k) ?_
  obtain ⟨T101, X101, e101, st101⟩ := initO X0 hx hZ hown (hw _ (List.mem_of_getElem? (i := 6) rfl)) (hw _ (List.mem_of_getElem? (i := 7) rfl)) (hw _ (List.mem_of_getElem? (i := 8) rfl)) e0 (g := (mkF m 1 #[.val (.ref r0), .val (.long q1), .second, .val (.long q2), .second, .val (.long q3), .second] [(.ref r0)])) rfl (by rw [hml]; rfl) rfl (hb hby d1_1) (by decide) (W := 0) (by show 2 * 0 + _ ≤ _; exact Nat.le_of_eq rfl) (by decide)
  obtain ⟨T102, h102, X102, e102, W102, st102⟩ := putF X101 hx hZ hown (host := "") (Or.inl (hw _ (List.mem_of_getElem? (i := 10) rfl))) Via.refl e101 F_latestMillis_r0 E_r0 (Or.inl (hw _ (List.mem_of_getElem? (i := 11) rfl))) (hw _ (List.mem_of_getElem? (i := 1) rfl)) (ty := .long) (by decide) rfl rfl (g := (mkF m 8 #[.val (.ref r0), .val (.long q1), .second, .val (.long q2), .second, .val (.long q3), .second] [(.long (-9223372036854775808 : Int64)), (.ref r0)])) rfl rfl (hb hby d1_8)
  have F103 := E_r0.wr W102
  have F104 := F_latestMillis_r0.same W102
  have F105 := F_millis_r0.other W102 (Or.inr (slot_ne (Or.inl (hw _ (List.mem_of_getElem? (i := 13) rfl))) (Or.inl (hw _ (List.mem_of_getElem? (i := 11) rfl))) (by decide) (t := .long) (t' := .long) (by decide) (by decide)))
  have F106 := F_leadMillis_r0.other W102 (Or.inr (slot_ne (Or.inl (hw _ (List.mem_of_getElem? (i := 15) rfl))) (Or.inl (hw _ (List.mem_of_getElem? (i := 11) rfl))) (by decide) (t := .long) (t' := .long) (by decide) (by decide)))
  have Z107 : n0 ≤ h102.size := Nat.le_trans Z0 (Keep.of_wr W102).1
  have K108 : Keep h0 h102 [r0] := K0.wr W102 (Or.inl (List.mem_of_getElem? (i := 0) rfl))
  have N109 := Fr.snoc X102 N0 g_r0
  obtain ⟨T110, h110, X110, e110, W110, st110⟩ := putF X102 hx hZ hown (host := "") (Or.inl (hw _ (List.mem_of_getElem? (i := 12) rfl))) Via.refl e102 F105 F103 (Or.inl (hw _ (List.mem_of_getElem? (i := 13) rfl))) (hw _ (List.mem_of_getElem? (i := 1) rfl)) (ty := .long) (by decide) rfl rfl (g := (mkF m 15 #[.val (.ref r0), .val (.long q1), .second, .val (.long q2), .second, .val (.long q3), .second] [(.long (-9223372036854775808 : Int64)), (.ref r0)])) rfl rfl (hb hby d1_15)
  have F111 := F103.wr W110
  have F112 := F104.other W110 (Or.inr (slot_ne (Or.inl (hw _ (List.mem_of_getElem? (i := 11) rfl))) (Or.inl (hw _ (List.mem_of_getElem? (i := 13) rfl))) (by decide) (t := .long) (t' := .long) (by decide) (by decide)))
  have F113 := F105.same W110
  have F114 := F106.other W110 (Or.inr (slot_ne (Or.inl (hw _ (List.mem_of_getElem? (i := 15) rfl))) (Or.inl (hw _ (List.mem_of_getElem? (i := 13) rfl))) (by decide) (t := .long) (t' := .long) (by decide) (by decide)))
  have Z115 : n0 ≤ h110.size := Nat.le_trans Z107 (Keep.of_wr W110).1
  have K116 : Keep h0 h110 [r0] := K108.wr W110 (Or.inl (List.mem_of_getElem? (i := 0) rfl))
  have N117 := Fr.snoc X110 N109 g_r0
  obtain ⟨T118, h118, X118, e118, W118, st118⟩ := putF X110 hx hZ hown (host := "") (Or.inl (hw _ (List.mem_of_getElem? (i := 10) rfl))) Via.refl e110 F112 F111 (Or.inl (hw _ (List.mem_of_getElem? (i := 11) rfl))) (hw _ (List.mem_of_getElem? (i := 1) rfl)) (ty := .long) (by decide) rfl rfl (g := (mkF m 20 #[.val (.ref r0), .val (.long q1), .second, .val (.long q2), .second, .val (.long q3), .second] [(.long q1), (.ref r0)])) rfl rfl (hb hby d1_20)
  have F119 := F111.wr W118
  have F120 := F112.same W118
  have F121 := F113.other W118 (Or.inr (slot_ne (Or.inl (hw _ (List.mem_of_getElem? (i := 13) rfl))) (Or.inl (hw _ (List.mem_of_getElem? (i := 11) rfl))) (by decide) (t := .long) (t' := .long) (by decide) (by decide)))
  have F122 := F114.other W118 (Or.inr (slot_ne (Or.inl (hw _ (List.mem_of_getElem? (i := 15) rfl))) (Or.inl (hw _ (List.mem_of_getElem? (i := 11) rfl))) (by decide) (t := .long) (t' := .long) (by decide) (by decide)))
  have Z123 : n0 ≤ h118.size := Nat.le_trans Z115 (Keep.of_wr W118).1
  have K124 : Keep h0 h118 [r0] := K116.wr W118 (Or.inl (List.mem_of_getElem? (i := 0) rfl))
  have N125 := Fr.snoc X118 N117 g_r0
  obtain ⟨T126, h126, X126, e126, W126, st126⟩ := putF X118 hx hZ hown (host := "") (Or.inl (hw _ (List.mem_of_getElem? (i := 12) rfl))) Via.refl e118 F121 F119 (Or.inl (hw _ (List.mem_of_getElem? (i := 13) rfl))) (hw _ (List.mem_of_getElem? (i := 1) rfl)) (ty := .long) (by decide) rfl rfl (g := (mkF m 25 #[.val (.ref r0), .val (.long q1), .second, .val (.long q2), .second, .val (.long q3), .second] [(.long q2), (.ref r0)])) rfl rfl (hb hby d1_25)
  have F127 := F119.wr W126
  have F128 := F120.other W126 (Or.inr (slot_ne (Or.inl (hw _ (List.mem_of_getElem? (i := 11) rfl))) (Or.inl (hw _ (List.mem_of_getElem? (i := 13) rfl))) (by decide) (t := .long) (t' := .long) (by decide) (by decide)))
  have F129 := F121.same W126
  have F130 := F122.other W126 (Or.inr (slot_ne (Or.inl (hw _ (List.mem_of_getElem? (i := 15) rfl))) (Or.inl (hw _ (List.mem_of_getElem? (i := 13) rfl))) (by decide) (t := .long) (t' := .long) (by decide) (by decide)))
  have Z131 : n0 ≤ h126.size := Nat.le_trans Z123 (Keep.of_wr W126).1
  have K132 : Keep h0 h126 [r0] := K124.wr W126 (Or.inl (List.mem_of_getElem? (i := 0) rfl))
  have N133 := Fr.snoc X126 N125 g_r0
  obtain ⟨T134, h134, X134, e134, W134, st134⟩ := putF X126 hx hZ hown (host := "") (Or.inl (hw _ (List.mem_of_getElem? (i := 14) rfl))) Via.refl e126 F130 F127 (Or.inl (hw _ (List.mem_of_getElem? (i := 15) rfl))) (hw _ (List.mem_of_getElem? (i := 1) rfl)) (ty := .long) (by decide) rfl rfl (g := (mkF m 31 #[.val (.ref r0), .val (.long q1), .second, .val (.long q2), .second, .val (.long q3), .second] [(.long q3), (.ref r0)])) rfl rfl (hb hby d1_31)
  have F135 := F127.wr W134
  have F136 := F128.other W134 (Or.inr (slot_ne (Or.inl (hw _ (List.mem_of_getElem? (i := 11) rfl))) (Or.inl (hw _ (List.mem_of_getElem? (i := 15) rfl))) (by decide) (t := .long) (t' := .long) (by decide) (by decide)))
  have F137 := F129.other W134 (Or.inr (slot_ne (Or.inl (hw _ (List.mem_of_getElem? (i := 13) rfl))) (Or.inl (hw _ (List.mem_of_getElem? (i := 15) rfl))) (by decide) (t := .long) (t' := .long) (by decide) (by decide)))
  have F138 := F130.same W134
  have Z139 : n0 ≤ h134.size := Nat.le_trans Z131 (Keep.of_wr W134).1
  have K140 : Keep h0 h134 [r0] := K132.wr W134 (Or.inl (List.mem_of_getElem? (i := 0) rfl))
  have N141 := Fr.snoc X134 N133 g_r0
  have hgo142 : ∀ t, Steps p.tables e below (T134.setTop (mkF m 34 #[.val (.ref r0), .val (.long q1), .second, .val (.long q2), .second, .val (.long q3), .second] [])) t → Steps p.tables e below (s₁.setTop (mkF m 0 #[.val (.ref r0), .val (.long q1), .second, .val (.long q2), .second, .val (.long q3), .second] [])) t := by
    intro t kt
    show Steps p.tables e below (s₁.setTop (mkF m 0 #[.val (.ref r0), .val (.long q1), .second, .val (.long q2), .second, .val (.long q3), .second] [])) _
    refine XS.aloadN X0.here hx rfl (hb hby d1_0) rfl rfl ?_
    show Steps p.tables e below (s₁.setTop (mkF m 1 #[.val (.ref r0), .val (.long q1), .second, .val (.long q2), .second, .val (.long q3), .second] [(.ref r0)])) _
    refine st101 _ ?_
    show Steps p.tables e below (T101.setTop (mkF m 4 #[.val (.ref r0), .val (.long q1), .second, .val (.long q2), .second, .val (.long q3), .second] [])) _
    refine XS.aloadN X101.here hx rfl (hb hby d1_4) rfl rfl ?_
    show Steps p.tables e below (T101.setTop (mkF m 5 #[.val (.ref r0), .val (.long q1), .second, .val (.long q2), .second, .val (.long q3), .second] [(.ref r0)])) _
    refine X101.ldc2Long hx hown (mvT hZ (hw _ (List.mem_of_getElem? (i := 9) rfl))) (g := (mkF m 5 #[.val (.ref r0), .val (.long q1), .second, .val (.long q2), .second, .val (.long q3), .second] [(.ref r0)])) rfl (hb hby d1_5) _ ?_
    show Steps p.tables e below (T101.setTop (mkF m 8 #[.val (.ref r0), .val (.long q1), .second, .val (.long q2), .second, .val (.long q3), .second] [(.long (-9223372036854775808 : Int64)), (.ref r0)])) _
    refine st102 _ ?_
    show Steps p.tables e below (T102.setTop (mkF m 11 #[.val (.ref r0), .val (.long q1), .second, .val (.long q2), .second, .val (.long q3), .second] [])) _
    refine XS.aloadN X102.here hx rfl (hb hby d1_11) rfl rfl ?_
    show Steps p.tables e below (T102.setTop (mkF m 12 #[.val (.ref r0), .val (.long q1), .second, .val (.long q2), .second, .val (.long q3), .second] [(.ref r0)])) _
    refine X102.ldc2Long hx hown (mvT hZ (hw _ (List.mem_of_getElem? (i := 9) rfl))) (g := (mkF m 12 #[.val (.ref r0), .val (.long q1), .second, .val (.long q2), .second, .val (.long q3), .second] [(.ref r0)])) rfl (hb hby d1_12) _ ?_
    show Steps p.tables e below (T102.setTop (mkF m 15 #[.val (.ref r0), .val (.long q1), .second, .val (.long q2), .second, .val (.long q3), .second] [(.long (-9223372036854775808 : Int64)), (.ref r0)])) _
    refine st110 _ ?_
    show Steps p.tables e below (T110.setTop (mkF m 18 #[.val (.ref r0), .val (.long q1), .second, .val (.long q2), .second, .val (.long q3), .second] [])) _
    refine XS.aloadN X110.here hx rfl (hb hby d1_18) rfl rfl ?_
    show Steps p.tables e below (T110.setTop (mkF m 19 #[.val (.ref r0), .val (.long q1), .second, .val (.long q2), .second, .val (.long q3), .second] [(.ref r0)])) _
    refine XS.lloadN X110.here hx rfl (hb hby d1_19) rfl ?_
    show Steps p.tables e below (T110.setTop (mkF m 20 #[.val (.ref r0), .val (.long q1), .second, .val (.long q2), .second, .val (.long q3), .second] [(.long q1), (.ref r0)])) _
    refine st118 _ ?_
    show Steps p.tables e below (T118.setTop (mkF m 23 #[.val (.ref r0), .val (.long q1), .second, .val (.long q2), .second, .val (.long q3), .second] [])) _
    refine XS.aloadN X118.here hx rfl (hb hby d1_23) rfl rfl ?_
    show Steps p.tables e below (T118.setTop (mkF m 24 #[.val (.ref r0), .val (.long q1), .second, .val (.long q2), .second, .val (.long q3), .second] [(.ref r0)])) _
    refine XS.lloadN X118.here hx rfl (hb hby d1_24) rfl ?_
    show Steps p.tables e below (T118.setTop (mkF m 25 #[.val (.ref r0), .val (.long q1), .second, .val (.long q2), .second, .val (.long q3), .second] [(.long q2), (.ref r0)])) _
    refine st126 _ ?_
    show Steps p.tables e below (T126.setTop (mkF m 28 #[.val (.ref r0), .val (.long q1), .second, .val (.long q2), .second, .val (.long q3), .second] [])) _
    refine XS.aloadN X126.here hx rfl (hb hby d1_28) rfl rfl ?_
    show Steps p.tables e below (T126.setTop (mkF m 29 #[.val (.ref r0), .val (.long q1), .second, .val (.long q2), .second, .val (.long q3), .second] [(.ref r0)])) _
    refine XS.lload X126.here hx rfl (hb hby d1_29) rfl ?_
    show Steps p.tables e below (T126.setTop (mkF m 31 #[.val (.ref r0), .val (.long q1), .second, .val (.long q2), .second, .val (.long q3), .second] [(.long q3), (.ref r0)])) _
    refine st134 _ ?_
    exact kt
  refine own_go hgo142 ?_
  exact own_retV X134 hx Bd.returns Bd.notSynchronized (hb hby d1_34) (by decide) (by decide) (by rw [e134]; exact ⟨(by rfl), N141, K140, F135, (by exact F136), (by exact F137), (by exact F138)⟩)
theorem d4_0 : decode prog_19_method_1_code 0 = .ok (.aload_n 0, 1) := by decide +kernel
theorem d4_1 : decode prog_19_method_1_code 1 = .ok (.invokespecial 1, 3) := by decide +kernel
theorem d4_4 : decode prog_19_method_1_code 4 = .ok (.aload_n 0, 1) := by decide +kernel
theorem d4_5 : decode prog_19_method_1_code 5 = .ok (.ldc2_w 9, 3) := by decide +kernel
theorem d4_8 : decode prog_19_method_1_code 8 = .ok (.putfield 11, 3) := by decide +kernel
theorem d4_11 : decode prog_19_method_1_code 11 = .ok (.aload_n 0, 1) := by decide +kernel
theorem d4_12 : decode prog_19_method_1_code 12 = .ok (.ldc2_w 9, 3) := by decide +kernel
theorem d4_15 : decode prog_19_method_1_code 15 = .ok (.putfield 17, 3) := by decide +kernel
theorem d4_18 : decode prog_19_method_1_code 18 = .ok (.return_, 1) := by decide +kernel
theorem ef_4 (m : MethodId) (r0 : Addr) : entryFrame m #[(.ref r0)] 1 = mkF m 0 #[.val (.ref r0)] [] := by (first | (simp [entryFrame, mkF, argsToLocals, Value.category]; done) | rfl)
def Q4 (Z : State) (r0 : Addr) (w1 : Int64) (w2 : Int64) (w3 : Int64) (h0 : Heap) (n0 : Nat) (v : Option Value) (h : Heap) (L : List Loc) : Prop := v = none ∧ Fr n0 L ∧ Keep h0 h [r0] ∧ Exa Z h r0 "com/example/millrace/millrace/queue/JournalClock" ∧ Fld Z h r0 "com/example/millrace/millrace/queue/JournalClock" "latestMillis" "J" (.long (-9223372036854775808 : Int64)) ∧ Fld Z h r0 "com/example/millrace/millrace/queue/JournalClock" "millis" "J" (.long (-9223372036854775808 : Int64)) ∧ Fld Z h r0 "com/example/millrace/millrace/queue/JournalClock" "leadMillis" "J" (.long w3)
set_option maxRecDepth 65536 in
set_option maxHeartbeats 40000000 in
theorem rm4 (l : Launch) (Z : State) (a0 : Array Value) (hw : ∀ d ∈ tables_1, d.before a0 Z = true) (ws : List Jvm.Cond) (r0 : Addr) (w1 : Int64) (w2 : Int64) (w3 : Int64) (h0 : Heap) (n0 : Nat) (Z0 : n0 ≤ h0.size) (E_r0 : Exa Z h0 r0 "com/example/millrace/millrace/queue/JournalClock") (F_latestMillis_r0 : Fld Z h0 r0 "com/example/millrace/millrace/queue/JournalClock" "latestMillis" "J" (.long w1)) (F_millis_r0 : Fld Z h0 r0 "com/example/millrace/millrace/queue/JournalClock" "millis" "J" (.long w2)) (F_leadMillis_r0 : Fld Z h0 r0 "com/example/millrace/millrace/queue/JournalClock" "leadMillis" "J" (.long w3)) (g_r0 : n0 ≤ r0) :
    MetFree l (⟨"com/example/millrace/millrace/queue/JournalClock", "<init>", "()V"⟩ : MethodName) (head1 (Jvm.Cond.code (⟨"com/example/millrace/millrace/queue/JournalClock", "<init>", "()V"⟩ : MethodName) prog_19_method_1_code 1 none :: ws) ({ frames := 1, cells := 0, slots := 0, locals := 12 } : Room)) (fun a U => a = #[(.ref r0)] ∧ Z.Warmed39 U.vm ∧ U.heap = h0) (fun _ _ _ _ _ => True) (fun _ U o U' => ∃ v L, o = .returned v ∧ Q4 Z r0 w1 w2 w3 h0 n0 v U'.heap L ∧ FrameEnd U o U' L ({ frames := 1, cells := 0, slots := 0, locals := 12 } : Room).cells ({ frames := 1, cells := 0, slots := 0, locals := 12 } : Room).slots) := by
  refine MetFree.of_bodySF (plainFor_of_name pn0) hisR ?_
  intro p e s m args below meth c s₁ Bd hml0 hP hK
  obtain ⟨rfl, hZ, hh⟩ := hP
  have hx := Bd.exec
  have hby := Bd.bytes
  have hml : c.maxLocals = 1 := hml0
  have hown : s.vm.findClass "com/example/millrace/millrace/queue/JournalClock" = some m.cls := findClass_of_methodNamed Bd.named
  have hnm := (name_of_methodNamed Bd.named Bd.method).1
  have X0 : Stand p l e ({ frames := 1, cells := 0, slots := 0, locals := 12 } : Room) s m #[(.ref r0)] below meth c s₁ [] 0 0 := Stand.of_body Bd
  have e0 : s₁.heap = h0 := by rw [← hh, Bd.state]; rfl
  have N0 := Fr.nil n0
  have K0 : Keep h0 h0 [r0] := Keep.refl h0 _
  show own_Go p e below s (Q4 Z r0 w1 w2 w3 h0 n0) ({ frames := 1, cells := 0, slots := 0, locals := 12 } : Room).cells ({ frames := 1, cells := 0, slots := 0, locals := 12 } : Room).slots (s₁.setTop (entryFrame m #[(.ref r0)] 1))
  refine own_go (fun t k => castTop (ef_4 m r0) k) ?_
  obtain ⟨T101, X101, e101, st101⟩ := initO X0 hx hZ hown (hw _ (List.mem_of_getElem? (i := 6) rfl)) (hw _ (List.mem_of_getElem? (i := 7) rfl)) (hw _ (List.mem_of_getElem? (i := 8) rfl)) e0 (g := (mkF m 1 #[.val (.ref r0)] [(.ref r0)])) rfl (by rw [hml]; rfl) rfl (hb hby d4_1) (by decide) (W := 0) (by show 2 * 0 + _ ≤ _; exact Nat.le_of_eq rfl) (by decide)
  obtain ⟨T102, h102, X102, e102, W102, st102⟩ := putF X101 hx hZ hown (host := "") (Or.inl (hw _ (List.mem_of_getElem? (i := 10) rfl))) Via.refl e101 F_latestMillis_r0 E_r0 (Or.inl (hw _ (List.mem_of_getElem? (i := 11) rfl))) (hw _ (List.mem_of_getElem? (i := 1) rfl)) (ty := .long) (by decide) rfl rfl (g := (mkF m 8 #[.val (.ref r0)] [(.long (-9223372036854775808 : Int64)), (.ref r0)])) rfl rfl (hb hby d4_8)
  have F103 := E_r0.wr W102
  have F104 := F_latestMillis_r0.same W102
  have F105 := F_millis_r0.other W102 (Or.inr (slot_ne (Or.inl (hw _ (List.mem_of_getElem? (i := 13) rfl))) (Or.inl (hw _ (List.mem_of_getElem? (i := 11) rfl))) (by decide) (t := .long) (t' := .long) (by decide) (by decide)))
  have F106 := F_leadMillis_r0.other W102 (Or.inr (slot_ne (Or.inl (hw _ (List.mem_of_getElem? (i := 15) rfl))) (Or.inl (hw _ (List.mem_of_getElem? (i := 11) rfl))) (by decide) (t := .long) (t' := .long) (by decide) (by decide)))
  have Z107 : n0 ≤ h102.size := Nat.le_trans Z0 (Keep.of_wr W102).1
  have K108 : Keep h0 h102 [r0] := K0.wr W102 (Or.inl (List.mem_of_getElem? (i := 0) rfl))
  have N109 := Fr.snoc X102 N0 g_r0
  obtain ⟨T110, h110, X110, e110, W110, st110⟩ := putF X102 hx hZ hown (host := "") (Or.inl (hw _ (List.mem_of_getElem? (i := 12) rfl))) Via.refl e102 F105 F103 (Or.inl (hw _ (List.mem_of_getElem? (i := 13) rfl))) (hw _ (List.mem_of_getElem? (i := 1) rfl)) (ty := .long) (by decide) rfl rfl (g := (mkF m 15 #[.val (.ref r0)] [(.long (-9223372036854775808 : Int64)), (.ref r0)])) rfl rfl (hb hby d4_15)
  have F111 := F103.wr W110
  have F112 := F104.other W110 (Or.inr (slot_ne (Or.inl (hw _ (List.mem_of_getElem? (i := 11) rfl))) (Or.inl (hw _ (List.mem_of_getElem? (i := 13) rfl))) (by decide) (t := .long) (t' := .long) (by decide) (by decide)))
  have F113 := F105.same W110
  have F114 := F106.other W110 (Or.inr (slot_ne (Or.inl (hw _ (List.mem_of_getElem? (i := 15) rfl))) (Or.inl (hw _ (List.mem_of_getElem? (i := 13) rfl))) (by decide) (t := .long) (t' := .long) (by decide) (by decide)))
  have Z115 : n0 ≤ h110.size := Nat.le_trans Z107 (Keep.of_wr W110).1
  have K116 : Keep h0 h110 [r0] := K108.wr W110 (Or.inl (List.mem_of_getElem? (i := 0) rfl))
  have N117 := Fr.snoc X110 N109 g_r0
  have hgo118 : ∀ t, Steps p.tables e below (T110.setTop (mkF m 18 #[.val (.ref r0)] [])) t → Steps p.tables e below (s₁.setTop (mkF m 0 #[.val (.ref r0)] [])) t := by
    intro t kt
    show Steps p.tables e below (s₁.setTop (mkF m 0 #[.val (.ref r0)] [])) _
    refine XS.aloadN X0.here hx rfl (hb hby d4_0) rfl rfl ?_
    show Steps p.tables e below (s₁.setTop (mkF m 1 #[.val (.ref r0)] [(.ref r0)])) _
    refine st101 _ ?_
    show Steps p.tables e below (T101.setTop (mkF m 4 #[.val (.ref r0)] [])) _
    refine XS.aloadN X101.here hx rfl (hb hby d4_4) rfl rfl ?_
    show Steps p.tables e below (T101.setTop (mkF m 5 #[.val (.ref r0)] [(.ref r0)])) _
    refine X101.ldc2Long hx hown (mvT hZ (hw _ (List.mem_of_getElem? (i := 9) rfl))) (g := (mkF m 5 #[.val (.ref r0)] [(.ref r0)])) rfl (hb hby d4_5) _ ?_
    show Steps p.tables e below (T101.setTop (mkF m 8 #[.val (.ref r0)] [(.long (-9223372036854775808 : Int64)), (.ref r0)])) _
    refine st102 _ ?_
    show Steps p.tables e below (T102.setTop (mkF m 11 #[.val (.ref r0)] [])) _
    refine XS.aloadN X102.here hx rfl (hb hby d4_11) rfl rfl ?_
    show Steps p.tables e below (T102.setTop (mkF m 12 #[.val (.ref r0)] [(.ref r0)])) _
    refine X102.ldc2Long hx hown (mvT hZ (hw _ (List.mem_of_getElem? (i := 9) rfl))) (g := (mkF m 12 #[.val (.ref r0)] [(.ref r0)])) rfl (hb hby d4_12) _ ?_
    show Steps p.tables e below (T102.setTop (mkF m 15 #[.val (.ref r0)] [(.long (-9223372036854775808 : Int64)), (.ref r0)])) _
    refine st110 _ ?_
    exact kt
  refine own_go hgo118 ?_
  exact own_retV X110 hx Bd.returns Bd.notSynchronized (hb hby d4_18) (by decide) (by decide) (by rw [e110]; exact ⟨(by rfl), N117, K116, F111, (by exact F112), (by exact F113), (by exact F114)⟩)
theorem d7_0 : decode jdk_18_method_1_code 0 = .ok (.aload_n 0, 1) := by decide +kernel
theorem d7_1 : decode jdk_18_method_1_code 1 = .ok (.invokespecial 1, 3) := by decide +kernel
theorem d7_4 : decode jdk_18_method_1_code 4 = .ok (.return_, 1) := by decide +kernel
theorem ef_7 (m : MethodId) (r0 : Addr) : entryFrame m #[(.ref r0)] 1 = mkF m 0 #[.val (.ref r0)] [] := by (first | (simp [entryFrame, mkF, argsToLocals, Value.category]; done) | rfl)
theorem pn1 : plainName "java/lang/Number" = true := by first | (simp [plainName, overriddenIn]; done) | decide +kernel
def Q7 (Z : State) (r0 : Addr) (h0 : Heap) (n0 : Nat) (v : Option Value) (h : Heap) (L : List Loc) : Prop := v = none ∧ Fr n0 L ∧ h = h0
set_option maxRecDepth 65536 in
set_option maxHeartbeats 40000000 in
theorem rm7 (l : Launch) (Z : State) (a0 : Array Value) (hw : ∀ d ∈ tables_1, d.before a0 Z = true) (ws : List Jvm.Cond) (r0 : Addr) (h0 : Heap) (n0 : Nat) (Z0 : n0 ≤ h0.size) :
    MetFree l (⟨"java/lang/Number", "<init>", "()V"⟩ : MethodName) (head1 (Jvm.Cond.code (⟨"java/lang/Number", "<init>", "()V"⟩ : MethodName) jdk_18_method_1_code 1 none :: ws) ({ frames := 1, cells := 0, slots := 0, locals := 12 } : Room)) (fun a U => a = #[(.ref r0)] ∧ Z.Warmed39 U.vm ∧ U.heap = h0) (fun _ _ _ _ _ => True) (fun _ U o U' => ∃ v L, o = .returned v ∧ Q7 Z r0 h0 n0 v U'.heap L ∧ FrameEnd U o U' L ({ frames := 1, cells := 0, slots := 0, locals := 12 } : Room).cells ({ frames := 1, cells := 0, slots := 0, locals := 12 } : Room).slots) := by
  refine MetFree.of_bodySF (plainFor_of_name pn1) hisR ?_
  intro p e s m args below meth c s₁ Bd hml0 hP hK
  obtain ⟨rfl, hZ, hh⟩ := hP
  have hx := Bd.exec
  have hby := Bd.bytes
  have hml : c.maxLocals = 1 := hml0
  have hown : s.vm.findClass "java/lang/Number" = some m.cls := findClass_of_methodNamed Bd.named
  have hnm := (name_of_methodNamed Bd.named Bd.method).1
  have X0 : Stand p l e ({ frames := 1, cells := 0, slots := 0, locals := 12 } : Room) s m #[(.ref r0)] below meth c s₁ [] 0 0 := Stand.of_body Bd
  have e0 : s₁.heap = h0 := by rw [← hh, Bd.state]; rfl
  have N0 := Fr.nil n0
  have K0 : Keep h0 h0 [] := Keep.refl h0 _
  show own_Go p e below s (Q7 Z r0 h0 n0) ({ frames := 1, cells := 0, slots := 0, locals := 12 } : Room).cells ({ frames := 1, cells := 0, slots := 0, locals := 12 } : Room).slots (s₁.setTop (entryFrame m #[(.ref r0)] 1))
  refine own_go (fun t k => castTop (ef_7 m r0) k) ?_
  obtain ⟨T101, X101, e101, st101⟩ := initO X0 hx hZ hown (hw _ (List.mem_of_getElem? (i := 45) rfl)) (hw _ (List.mem_of_getElem? (i := 7) rfl)) (hw _ (List.mem_of_getElem? (i := 8) rfl)) e0 (g := (mkF m 1 #[.val (.ref r0)] [(.ref r0)])) rfl (by rw [hml]; rfl) rfl (hb hby d7_1) (by decide) (W := 0) (by show 2 * 0 + _ ≤ _; exact Nat.le_of_eq rfl) (by decide)
  have hgo102 : ∀ t, Steps p.tables e below (T101.setTop (mkF m 4 #[.val (.ref r0)] [])) t → Steps p.tables e below (s₁.setTop (mkF m 0 #[.val (.ref r0)] [])) t := by
    intro t kt
    show Steps p.tables e below (s₁.setTop (mkF m 0 #[.val (.ref r0)] [])) _
    refine XS.aloadN X0.here hx rfl (hb hby d7_0) rfl rfl ?_
    show Steps p.tables e below (s₁.setTop (mkF m 1 #[.val (.ref r0)] [(.ref r0)])) _
    refine st101 _ ?_
    exact kt
  refine own_go hgo102 ?_
  exact own_retV X101 hx Bd.returns Bd.notSynchronized (hb hby d7_4) (by decide) (by decide) (by rw [e101]; exact ⟨(by rfl), N0, rfl⟩)
theorem pd2 : parseMethodDescriptor "()V" = some ⟨[], none⟩ := by decide +kernel
theorem d6_0 : decode jdk_35_method_26_code 0 = .ok (.aload_n 0, 1) := by decide +kernel
theorem d6_1 : decode jdk_35_method_26_code 1 = .ok (.invokespecial 270, 3) := by decide +kernel
theorem d6_4 : decode jdk_35_method_26_code 4 = .ok (.aload_n 0, 1) := by decide +kernel
theorem d6_5 : decode jdk_35_method_26_code 5 = .ok (.lload_n 1, 1) := by decide +kernel
theorem d6_6 : decode jdk_35_method_26_code 6 = .ok (.putfield 273, 3) := by decide +kernel
theorem d6_9 : decode jdk_35_method_26_code 9 = .ok (.return_, 1) := by decide +kernel
theorem ef_6 (m : MethodId) (r0 : Addr) (q1 : Int64) : entryFrame m #[(.ref r0), (.long q1)] 3 = mkF m 0 #[.val (.ref r0), .val (.long q1), .second] [] := by (first | (simp [entryFrame, mkF, argsToLocals, Value.category]; done) | rfl)
theorem pn3 : plainName "java/lang/Long" = true := by first | (simp [plainName, overriddenIn]; done) | decide +kernel
def Q6 (Z : State) (r0 : Addr) (q1 : Int64) (w2 : Int64) (h0 : Heap) (n0 : Nat) (v : Option Value) (h : Heap) (L : List Loc) : Prop := v = none ∧ Fr n0 L ∧ Keep h0 h [r0] ∧ Exa Z h r0 "java/lang/Long" ∧ Fld Z h r0 "java/lang/Long" "value" "J" (.long q1)
set_option maxRecDepth 65536 in
set_option maxHeartbeats 40000000 in
theorem rm6 (l : Launch) (Z : State) (a0 : Array Value) (hw : ∀ d ∈ tables_1, d.before a0 Z = true) (ws : List Jvm.Cond) (r0 : Addr) (q1 : Int64) (w2 : Int64) (h0 : Heap) (n0 : Nat) (Z0 : n0 ≤ h0.size) (E_r0 : Exa Z h0 r0 "java/lang/Long") (F_value_r0 : Fld Z h0 r0 "java/lang/Long" "value" "J" (.long w2)) (g_r0 : n0 ≤ r0) :
    MetFree l (⟨"java/lang/Long", "<init>", "(J)V"⟩ : MethodName) (head1 (Jvm.Cond.code (⟨"java/lang/Long", "<init>", "(J)V"⟩ : MethodName) jdk_35_method_26_code 3 none :: ws) ({ frames := 2, cells := 0, slots := 0, locals := 24 } : Room)) (fun a U => a = #[(.ref r0), (.long q1)] ∧ Z.Warmed39 U.vm ∧ U.heap = h0) (fun _ _ _ _ _ => True) (fun _ U o U' => ∃ v L, o = .returned v ∧ Q6 Z r0 q1 w2 h0 n0 v U'.heap L ∧ FrameEnd U o U' L ({ frames := 2, cells := 0, slots := 0, locals := 24 } : Room).cells ({ frames := 2, cells := 0, slots := 0, locals := 24 } : Room).slots) := by
  refine MetFree.of_bodySF (plainFor_of_name pn3) hisR ?_
  intro p e s m args below meth c s₁ Bd hml0 hP hK
  obtain ⟨rfl, hZ, hh⟩ := hP
  have hx := Bd.exec
  have hby := Bd.bytes
  have hml : c.maxLocals = 3 := hml0
  have hown : s.vm.findClass "java/lang/Long" = some m.cls := findClass_of_methodNamed Bd.named
  have hnm := (name_of_methodNamed Bd.named Bd.method).1
  have X0 : Stand p l e ({ frames := 2, cells := 0, slots := 0, locals := 24 } : Room) s m #[(.ref r0), (.long q1)] below meth c s₁ [] 0 0 := Stand.of_body Bd
  have e0 : s₁.heap = h0 := by rw [← hh, Bd.state]; rfl
  have N0 := Fr.nil n0
  have K0 : Keep h0 h0 [r0] := Keep.refl h0 _
  show own_Go p e below s (Q6 Z r0 q1 w2 h0 n0) ({ frames := 2, cells := 0, slots := 0, locals := 24 } : Room).cells ({ frames := 2, cells := 0, slots := 0, locals := 24 } : Room).slots (s₁.setTop (entryFrame m #[(.ref r0), (.long q1)] 3))
  refine own_go (fun t k => castTop (ef_6 m r0 q1) k) ?_
  obtain ⟨_, _, ⟨T101, L101, k101, n101⟩, -, X101, ⟨Lc101, hQ101, l101, y101, z101⟩, st101⟩ := X0.specialBack hx (y := (⟨"java/lang/Number", "<init>", "()V"⟩ : MethodName)) rfl hown (mvT hZ (hw _ (List.mem_of_getElem? (i := 39) rfl))) (mvT hZ (hw _ (List.mem_of_getElem? (i := 40) rfl))) (mvT hZ (hw _ (List.mem_of_getElem? (i := 44) rfl))) (by decide) (backOf (W := 0) (rm7 l Z a0 hw [] r0 h0 n0 Z0 ) hZ (hw _ (List.mem_of_getElem? (i := 44) rfl)) (hw _ (List.mem_of_getElem? (i := 43) rfl)) (by decide) (by decide)) (g := (mkF m 1 #[.val (.ref r0), .val (.long q1), .second] [(.ref r0)])) rfl (by rw [hml]; rfl) (Steps.refl _) (a := r0) (argsL := []) (rest := []) (lenOf pd2 rfl) rfl (by show 2 * 0 + _ ≤ _; exact Nat.le_of_eq rfl) (hb hby d6_1) (fun _ _ => ⟨rfl, e0, (by decide : 0 + 0 ≤ _), (by decide : 0 + 0 ≤ _)⟩)
  dsimp only [Pt.U, Pt.locs, Pt.cells, Pt.slots] at X101 l101 y101 z101 st101 hQ101
  subst l101 y101 z101
  obtain ⟨rfl, N101q, e101⟩ := hQ101
  have N101 := Fr.app N0 N101q
  obtain ⟨T102, h102, X102, e102, W102, st102⟩ := putF X101 hx hZ hown (host := "") (Or.inl (hw _ (List.mem_of_getElem? (i := 46) rfl))) Via.refl e101 F_value_r0 E_r0 (Or.inr ⟨(hw _ (List.mem_of_getElem? (i := 47) rfl)), rfl, hnm⟩) (hw _ (List.mem_of_getElem? (i := 34) rfl)) (ty := .long) (by decide) rfl rfl (g := (mkF m 6 #[.val (.ref r0), .val (.long q1), .second] [(.long q1), (.ref r0)])) rfl rfl (hb hby d6_6)
  have F103 := E_r0.wr W102
  have F104 := F_value_r0.same W102
  have Z105 : n0 ≤ h102.size := Nat.le_trans Z0 (Keep.of_wr W102).1
  have K106 : Keep h0 h102 [r0] := K0.wr W102 (Or.inl (List.mem_of_getElem? (i := 0) rfl))
  have N107 := Fr.snoc X102 N101 g_r0
  have hgo108 : ∀ t, Steps p.tables e below (T102.setTop (mkF m 9 #[.val (.ref r0), .val (.long q1), .second] [])) t → Steps p.tables e below (s₁.setTop (mkF m 0 #[.val (.ref r0), .val (.long q1), .second] [])) t := by
    intro t kt
    show Steps p.tables e below (s₁.setTop (mkF m 0 #[.val (.ref r0), .val (.long q1), .second] [])) _
    refine XS.aloadN X0.here hx rfl (hb hby d6_0) rfl rfl ?_
    show Steps p.tables e below (s₁.setTop (mkF m 1 #[.val (.ref r0), .val (.long q1), .second] [(.ref r0)])) _
    refine st101.trans ?_
    show Steps p.tables e below (T101.setTop (mkF m 4 #[.val (.ref r0), .val (.long q1), .second] [])) _
    refine XS.aloadN X101.here hx rfl (hb hby d6_4) rfl rfl ?_
    show Steps p.tables e below (T101.setTop (mkF m 5 #[.val (.ref r0), .val (.long q1), .second] [(.ref r0)])) _
    refine XS.lloadN X101.here hx rfl (hb hby d6_5) rfl ?_
    show Steps p.tables e below (T101.setTop (mkF m 6 #[.val (.ref r0), .val (.long q1), .second] [(.long q1), (.ref r0)])) _
    refine st102 _ ?_
    exact kt
  refine own_go hgo108 ?_
  exact own_retV X102 hx Bd.returns Bd.notSynchronized (hb hby d6_9) (by decide) (by decide) (by rw [e102]; exact ⟨(by rfl), N107, K106, F103, (by exact F104)⟩)
theorem d3_0 : decode prog_19_method_10_code 0 = .ok (.aload_n 1, 1) := by decide +kernel
theorem d3_1 : decode prog_19_method_10_code 1 = .ok (.instanceof 12, 3) := by decide +kernel
theorem d3_4 : decode prog_19_method_10_code 4 = .ok (.ifCond .eq 48, 3) := by decide +kernel
theorem d3_52 : decode prog_19_method_10_code 52 = .ok (.iconst 0, 1) := by decide +kernel
theorem d3_53 : decode prog_19_method_10_code 53 = .ok (.ireturn, 1) := by decide +kernel
theorem ef_3n (m : MethodId) (r0 : Addr) : entryFrame m #[(.ref r0), .null] 3 = mkF m 0 #[.val (.ref r0), .val .null, .unset] [] := by (first | (simp [entryFrame, mkF, argsToLocals, Value.category]; done) | rfl)
def Q3n (Z : State) (r0 : Addr) (h0 : Heap) (n0 : Nat) (v : Option Value) (h : Heap) (L : List Loc) : Prop := v = some (.int (0 : Int32)) ∧ Fr n0 L ∧ h = h0
set_option maxRecDepth 65536 in
set_option maxHeartbeats 40000000 in
theorem rm3n (l : Launch) (Z : State) (a0 : Array Value) (hw : ∀ d ∈ tables_1, d.before a0 Z = true) (ws : List Jvm.Cond) (r0 : Addr) (h0 : Heap) (n0 : Nat) (Z0 : n0 ≤ h0.size) :
    MetFree l (⟨"com/example/millrace/millrace/queue/JournalClock", "equals", "(Ljava/lang/Object;)Z"⟩ : MethodName) (head1 (Jvm.Cond.code (⟨"com/example/millrace/millrace/queue/JournalClock", "equals", "(Ljava/lang/Object;)Z"⟩ : MethodName) prog_19_method_10_code 3 (some .boolean) :: ws) ({ frames := 0, cells := 0, slots := 0, locals := 0 } : Room)) (fun a U => a = #[(.ref r0), .null] ∧ Z.Warmed39 U.vm ∧ U.heap = h0) (fun _ _ _ _ _ => True) (fun _ U o U' => ∃ v L, o = .returned v ∧ Q3n Z r0 h0 n0 v U'.heap L ∧ FrameEnd U o U' L ({ frames := 0, cells := 0, slots := 0, locals := 0 } : Room).cells ({ frames := 0, cells := 0, slots := 0, locals := 0 } : Room).slots) := by
  refine MetFree.of_bodySF (plainFor_of_name pn0) hisR ?_
  intro p e s m args below meth c s₁ Bd hml0 hP hK
  obtain ⟨rfl, hZ, hh⟩ := hP
  have hx := Bd.exec
  have hby := Bd.bytes
  have hml : c.maxLocals = 3 := hml0
  have hown : s.vm.findClass "com/example/millrace/millrace/queue/JournalClock" = some m.cls := findClass_of_methodNamed Bd.named
  have hnm := (name_of_methodNamed Bd.named Bd.method).1
  have X0 : Stand p l e ({ frames := 0, cells := 0, slots := 0, locals := 0 } : Room) s m #[(.ref r0), .null] below meth c s₁ [] 0 0 := Stand.of_body Bd
  have e0 : s₁.heap = h0 := by rw [← hh, Bd.state]; rfl
  have N0 := Fr.nil n0
  have K0 : Keep h0 h0 [] := Keep.refl h0 _
  show own_Go p e below s (Q3n Z r0 h0 n0) ({ frames := 0, cells := 0, slots := 0, locals := 0 } : Room).cells ({ frames := 0, cells := 0, slots := 0, locals := 0 } : Room).slots (s₁.setTop (entryFrame m #[(.ref r0), .null] 3))
  refine own_go (fun t k => castTop (ef_3n m r0) k) ?_
  have hgo101 : ∀ t, Steps p.tables e below (s₁.setTop (mkF m 53 #[.val (.ref r0), .val .null, .unset] [(.int (0 : Int32))])) t → Steps p.tables e below (s₁.setTop (mkF m 0 #[.val (.ref r0), .val .null, .unset] [])) t := by
    intro t kt
    show Steps p.tables e below (s₁.setTop (mkF m 0 #[.val (.ref r0), .val .null, .unset] [])) _
    refine XS.aloadN X0.here hx rfl (hb hby d3_0) rfl rfl ?_
    show Steps p.tables e below (s₁.setTop (mkF m 1 #[.val (.ref r0), .val .null, .unset] [.null])) _
    refine X0.instanceofNull hx (g := (mkF m 1 #[.val (.ref r0), .val .null, .unset] [.null])) rfl rfl (hb hby d3_1) _ ?_
    show Steps p.tables e below (s₁.setTop (mkF m 4 #[.val (.ref r0), .val .null, .unset] [(.int (0 : Int32))])) _
    refine XS.ifYes X0.here hx rfl (pc0 := 4) (pc' := 52) rfl (hb hby d3_4) rfl ((if0 _ _).trans (teq (by decide : (0 : Int32) = (0 : Int32))).1) (by decide) (by decide) ?_
    show Steps p.tables e below (s₁.setTop (mkF m 52 #[.val (.ref r0), .val .null, .unset] [])) _
    refine XS.iconst X0.here hx rfl (hb hby d3_52) ?_
    exact kt
  refine own_go hgo101 ?_
  exact own_retZ X0 hx Bd.returns Bd.notSynchronized (hb hby d3_53) (by decide) (by decide) (Or.inl rfl) (by rw [e0]; exact ⟨(by rfl), N0, rfl⟩)
theorem ef_3L (m : MethodId) (r0 : Addr) (r1 : Addr) : entryFrame m #[(.ref r0), (.ref r1)] 3 = mkF m 0 #[.val (.ref r0), .val (.ref r1), .unset] [] := by (first | (simp [entryFrame, mkF, argsToLocals, Value.category]; done) | rfl)
def Q3L (Z : State) (r0 : Addr) (r1 : Addr) (h0 : Heap) (n0 : Nat) (v : Option Value) (h : Heap) (L : List Loc) : Prop := v = some (.int (0 : Int32)) ∧ Fr n0 L ∧ h = h0
set_option maxRecDepth 65536 in
set_option maxHeartbeats 40000000 in
theorem rm3L (l : Launch) (Z : State) (a0 : Array Value) (hw : ∀ d ∈ tables_1, d.before a0 Z = true) (ws : List Jvm.Cond) (r0 : Addr) (r1 : Addr) (h0 : Heap) (n0 : Nat) (Z0 : n0 ≤ h0.size) (E_r1 : Exa Z h0 r1 "java/lang/Long") :
    MetFree l (⟨"com/example/millrace/millrace/queue/JournalClock", "equals", "(Ljava/lang/Object;)Z"⟩ : MethodName) (head1 (Jvm.Cond.code (⟨"com/example/millrace/millrace/queue/JournalClock", "equals", "(Ljava/lang/Object;)Z"⟩ : MethodName) prog_19_method_10_code 3 (some .boolean) :: ws) ({ frames := 0, cells := 0, slots := 0, locals := 0 } : Room)) (fun a U => a = #[(.ref r0), (.ref r1)] ∧ Z.Warmed39 U.vm ∧ U.heap = h0) (fun _ _ _ _ _ => True) (fun _ U o U' => ∃ v L, o = .returned v ∧ Q3L Z r0 r1 h0 n0 v U'.heap L ∧ FrameEnd U o U' L ({ frames := 0, cells := 0, slots := 0, locals := 0 } : Room).cells ({ frames := 0, cells := 0, slots := 0, locals := 0 } : Room).slots) := by
  refine MetFree.of_bodySF (plainFor_of_name pn0) hisR ?_
  intro p e s m args below meth c s₁ Bd hml0 hP hK
  obtain ⟨rfl, hZ, hh⟩ := hP
  have hx := Bd.exec
  have hby := Bd.bytes
  have hml : c.maxLocals = 3 := hml0
  have hown : s.vm.findClass "com/example/millrace/millrace/queue/JournalClock" = some m.cls := findClass_of_methodNamed Bd.named
  have hnm := (name_of_methodNamed Bd.named Bd.method).1
  have X0 : Stand p l e ({ frames := 0, cells := 0, slots := 0, locals := 0 } : Room) s m #[(.ref r0), (.ref r1)] below meth c s₁ [] 0 0 := Stand.of_body Bd
  have e0 : s₁.heap = h0 := by rw [← hh, Bd.state]; rfl
  have N0 := Fr.nil n0
  have K0 : Keep h0 h0 [] := Keep.refl h0 _
  show own_Go p e below s (Q3L Z r0 r1 h0 n0) ({ frames := 0, cells := 0, slots := 0, locals := 0 } : Room).cells ({ frames := 0, cells := 0, slots := 0, locals := 0 } : Room).slots (s₁.setTop (entryFrame m #[(.ref r0), (.ref r1)] 3))
  refine own_go (fun t k => castTop (ef_3L m r0 r1) k) ?_
  obtain ⟨T101, X101, e101, st101⟩ := instNo X0 hx hZ hown (hw _ (List.mem_of_getElem? (i := 21) rfl)) e0 E_r1 (own_notins hw) (g := (mkF m 1 #[.val (.ref r0), .val (.ref r1), .unset] [(.ref r1)])) rfl rfl (hb hby d3_1)
  have hgo102 : ∀ t, Steps p.tables e below (T101.setTop (mkF m 53 #[.val (.ref r0), .val (.ref r1), .unset] [(.int (0 : Int32))])) t → Steps p.tables e below (s₁.setTop (mkF m 0 #[.val (.ref r0), .val (.ref r1), .unset] [])) t := by
    intro t kt
    show Steps p.tables e below (s₁.setTop (mkF m 0 #[.val (.ref r0), .val (.ref r1), .unset] [])) _
    refine XS.aloadN X0.here hx rfl (hb hby d3_0) rfl rfl ?_
    show Steps p.tables e below (s₁.setTop (mkF m 1 #[.val (.ref r0), .val (.ref r1), .unset] [(.ref r1)])) _
    refine st101 _ ?_
    show Steps p.tables e below (T101.setTop (mkF m 4 #[.val (.ref r0), .val (.ref r1), .unset] [(.int (0 : Int32))])) _
    refine XS.ifYes X101.here hx rfl (pc0 := 4) (pc' := 52) rfl (hb hby d3_4) rfl ((if0 _ _).trans (teq (by decide : (0 : Int32) = (0 : Int32))).1) (by decide) (by decide) ?_
    show Steps p.tables e below (T101.setTop (mkF m 52 #[.val (.ref r0), .val (.ref r1), .unset] [])) _
    refine XS.iconst X101.here hx rfl (hb hby d3_52) ?_
    exact kt
  refine own_go hgo102 ?_
  exact own_retZ X101 hx Bd.returns Bd.notSynchronized (hb hby d3_53) (by decide) (by decide) (Or.inl rfl) (by rw [e101]; exact ⟨(by rfl), N0, rfl⟩)
theorem d3_7 : decode prog_19_method_10_code 7 = .ok (.aload_n 1, 1) := by decide +kernel
theorem d3_8 : decode prog_19_method_10_code 8 = .ok (.checkcast 12, 3) := by decide +kernel
theorem d3_11 : decode prog_19_method_10_code 11 = .ok (.astore_n 2, 1) := by decide +kernel
theorem d3_12 : decode prog_19_method_10_code 12 = .ok (.aload_n 2, 1) := by decide +kernel
theorem d3_13 : decode prog_19_method_10_code 13 = .ok (.getfield 11, 3) := by decide +kernel
theorem d3_16 : decode prog_19_method_10_code 16 = .ok (.aload_n 0, 1) := by decide +kernel
theorem d3_17 : decode prog_19_method_10_code 17 = .ok (.getfield 11, 3) := by decide +kernel
theorem d3_20 : decode prog_19_method_10_code 20 = .ok (.lcmp, 1) := by decide +kernel
theorem d3_21 : decode prog_19_method_10_code 21 = .ok (.ifCond .ne 31, 3) := by decide +kernel
theorem d3_24 : decode prog_19_method_10_code 24 = .ok (.aload_n 2, 1) := by decide +kernel
theorem d3_25 : decode prog_19_method_10_code 25 = .ok (.getfield 17, 3) := by decide +kernel
theorem d3_28 : decode prog_19_method_10_code 28 = .ok (.aload_n 0, 1) := by decide +kernel
theorem d3_29 : decode prog_19_method_10_code 29 = .ok (.getfield 17, 3) := by decide +kernel
theorem d3_32 : decode prog_19_method_10_code 32 = .ok (.lcmp, 1) := by decide +kernel
theorem d3_33 : decode prog_19_method_10_code 33 = .ok (.ifCond .ne 19, 3) := by decide +kernel
theorem d3_36 : decode prog_19_method_10_code 36 = .ok (.aload_n 2, 1) := by decide +kernel
theorem d3_37 : decode prog_19_method_10_code 37 = .ok (.getfield 20, 3) := by decide +kernel
theorem d3_40 : decode prog_19_method_10_code 40 = .ok (.aload_n 0, 1) := by decide +kernel
theorem d3_41 : decode prog_19_method_10_code 41 = .ok (.getfield 20, 3) := by decide +kernel
theorem d3_44 : decode prog_19_method_10_code 44 = .ok (.lcmp, 1) := by decide +kernel
theorem d3_45 : decode prog_19_method_10_code 45 = .ok (.ifCond .ne 7, 3) := by decide +kernel
theorem d3_48 : decode prog_19_method_10_code 48 = .ok (.iconst 1, 1) := by decide +kernel
theorem d3_49 : decode prog_19_method_10_code 49 = .ok (.goto 4, 3) := by decide +kernel
theorem ef_3j (m : MethodId) (r0 : Addr) (r1 : Addr) : entryFrame m #[(.ref r0), (.ref r1)] 3 = mkF m 0 #[.val (.ref r0), .val (.ref r1), .unset] [] := by (first | (simp [entryFrame, mkF, argsToLocals, Value.category]; done) | rfl)
def own_r3j (w2 : Int64) (w3 : Int64) (w4 : Int64) (w5 : Int64) (w6 : Int64) (w7 : Int64) : Int32 := (if w2 = w3 then (if w4 = w5 then (if w6 = w7 then (1 : Int32) else (0 : Int32)) else (0 : Int32)) else (0 : Int32))
theorem own_r3j_b (w2 : Int64) (w3 : Int64) (w4 : Int64) (w5 : Int64) (w6 : Int64) (w7 : Int64) : own_r3j w2 w3 w4 w5 w6 w7 = 0 ∨ own_r3j w2 w3 w4 w5 w6 w7 = 1 := by unfold own_r3j; exact (own_ite01 (own_ite01 (own_ite01 (Or.inr rfl) (Or.inl rfl)) (Or.inl rfl)) (Or.inl rfl))
def Q3j (Z : State) (r0 : Addr) (r1 : Addr) (w2 : Int64) (w3 : Int64) (w4 : Int64) (w5 : Int64) (w6 : Int64) (w7 : Int64) (h0 : Heap) (n0 : Nat) (v : Option Value) (h : Heap) (L : List Loc) : Prop := v = some (.int (own_r3j w2 w3 w4 w5 w6 w7)) ∧ Fr n0 L ∧ h = h0
set_option maxRecDepth 65536 in
set_option maxHeartbeats 40000000 in
theorem rm3j (l : Launch) (Z : State) (a0 : Array Value) (hw : ∀ d ∈ tables_1, d.before a0 Z = true) (ws : List Jvm.Cond) (r0 : Addr) (r1 : Addr) (w2 : Int64) (w3 : Int64) (w4 : Int64) (w5 : Int64) (w6 : Int64) (w7 : Int64) (h0 : Heap) (n0 : Nat) (Z0 : n0 ≤ h0.size) (E_r1 : Exa Z h0 r1 "com/example/millrace/millrace/queue/JournalClock") (F_latestMillis_r1 : Fld Z h0 r1 "com/example/millrace/millrace/queue/JournalClock" "latestMillis" "J" (.long w2)) (F_latestMillis_r0 : Fld Z h0 r0 "com/example/millrace/millrace/queue/JournalClock" "latestMillis" "J" (.long w3)) (F_millis_r1 : Fld Z h0 r1 "com/example/millrace/millrace/queue/JournalClock" "millis" "J" (.long w4)) (F_millis_r0 : Fld Z h0 r0 "com/example/millrace/millrace/queue/JournalClock" "millis" "J" (.long w5)) (F_leadMillis_r1 : Fld Z h0 r1 "com/example/millrace/millrace/queue/JournalClock" "leadMillis" "J" (.long w6)) (F_leadMillis_r0 : Fld Z h0 r0 "com/example/millrace/millrace/queue/JournalClock" "leadMillis" "J" (.long w7)) :
    MetFree l (⟨"com/example/millrace/millrace/queue/JournalClock", "equals", "(Ljava/lang/Object;)Z"⟩ : MethodName) (head1 (Jvm.Cond.code (⟨"com/example/millrace/millrace/queue/JournalClock", "equals", "(Ljava/lang/Object;)Z"⟩ : MethodName) prog_19_method_10_code 3 (some .boolean) :: ws) ({ frames := 0, cells := 0, slots := 0, locals := 0 } : Room)) (fun a U => a = #[(.ref r0), (.ref r1)] ∧ Z.Warmed39 U.vm ∧ U.heap = h0) (fun _ _ _ _ _ => True) (fun _ U o U' => ∃ v L, o = .returned v ∧ Q3j Z r0 r1 w2 w3 w4 w5 w6 w7 h0 n0 v U'.heap L ∧ FrameEnd U o U' L ({ frames := 0, cells := 0, slots := 0, locals := 0 } : Room).cells ({ frames := 0, cells := 0, slots := 0, locals := 0 } : Room).slots) := by
  refine MetFree.of_bodySF (plainFor_of_name pn0) hisR ?_
  intro p e s m args below meth c s₁ Bd hml0 hP hK
  obtain ⟨rfl, hZ, hh⟩ := hP
  have hx := Bd.exec
  have hby := Bd.bytes
  have hml : c.maxLocals = 3 := hml0
  have hown : s.vm.findClass "com/example/millrace/millrace/queue/JournalClock" = some m.cls := findClass_of_methodNamed Bd.named
  have hnm := (name_of_methodNamed Bd.named Bd.method).1
  have X0 : Stand p l e ({ frames := 0, cells := 0, slots := 0, locals := 0 } : Room) s m #[(.ref r0), (.ref r1)] below meth c s₁ [] 0 0 := Stand.of_body Bd
  have e0 : s₁.heap = h0 := by rw [← hh, Bd.state]; rfl
  have N0 := Fr.nil n0
  have K0 : Keep h0 h0 [] := Keep.refl h0 _
  show own_Go p e below s (Q3j Z r0 r1 w2 w3 w4 w5 w6 w7 h0 n0) ({ frames := 0, cells := 0, slots := 0, locals := 0 } : Room).cells ({ frames := 0, cells := 0, slots := 0, locals := 0 } : Room).slots (s₁.setTop (entryFrame m #[(.ref r0), (.ref r1)] 3))
  refine own_go (fun t k => castTop (ef_3j m r0 r1) k) ?_
  obtain ⟨T101, X101, e101, st101⟩ := instY X0 hx hZ hown (hw _ (List.mem_of_getElem? (i := 21) rfl)) e0 (Ins.self E_r1) (g := (mkF m 1 #[.val (.ref r0), .val (.ref r1), .unset] [(.ref r1)])) rfl rfl (hb hby d3_1)
  obtain ⟨T102, X102, e102, st102⟩ := castY X101 hx hZ hown (hw _ (List.mem_of_getElem? (i := 21) rfl)) e101 (Ins.self E_r1) (g := (mkF m 8 #[.val (.ref r0), .val (.ref r1), .unset] [(.ref r1)])) rfl rfl (hb hby d3_8)
  obtain ⟨T103, X103, e103, st103⟩ := getF X102 hx hZ hown (host := "") (Or.inl (hw _ (List.mem_of_getElem? (i := 10) rfl))) Via.refl e102 F_latestMillis_r1 (g := (mkF m 13 #[.val (.ref r0), .val (.ref r1), .val (.ref r1)] [(.ref r1)])) rfl rfl (hb hby d3_13)
  obtain ⟨T104, X104, e104, st104⟩ := getF X103 hx hZ hown (host := "") (Or.inl (hw _ (List.mem_of_getElem? (i := 10) rfl))) Via.refl e103 F_latestMillis_r0 (g := (mkF m 17 #[.val (.ref r0), .val (.ref r1), .val (.ref r1)] [(.ref r0), (.long w2)])) rfl rfl (hb hby d3_17)
  obtain ⟨v4, hv4⟩ : ∃ z : Int32, z = (if w6 = w7 then (1 : Int32) else (0 : Int32)) := ⟨_, rfl⟩
  obtain ⟨v5, hv5⟩ : ∃ z : Int32, z = (if w4 = w5 then v4 else (0 : Int32)) := ⟨_, rfl⟩
  obtain ⟨v6, hv6⟩ : ∃ z : Int32, z = (if w2 = w3 then v5 else (0 : Int32)) := ⟨_, rfl⟩
  obtain ⟨T117, lc117, X117, N117, e117, st117⟩ := own_mrg (n0 := n0) (h := h0) (g := (mkF m 21 #[.val (.ref r0), .val (.ref r1), .val (.ref r1)] [(.int (lcmpW w2 w3))])) (g' := (mkF m 53 #[.val (.ref r0), .val (.ref r1), .val (.ref r1)] [(.int v6)])) X104 (by
    by_cases hc21_1 : w2 = w3
    · obtain ⟨T105, X105, e105, st105⟩ := getF X104 hx hZ hown (host := "") (Or.inl (hw _ (List.mem_of_getElem? (i := 12) rfl))) Via.refl e104 F_millis_r1 (g := (mkF m 25 #[.val (.ref r0), .val (.ref r1), .val (.ref r1)] [(.ref r1)])) rfl rfl (hb hby d3_25)
      obtain ⟨T106, X106, e106, st106⟩ := getF X105 hx hZ hown (host := "") (Or.inl (hw _ (List.mem_of_getElem? (i := 12) rfl))) Via.refl e105 F_millis_r0 (g := (mkF m 29 #[.val (.ref r0), .val (.ref r1), .val (.ref r1)] [(.ref r0), (.long w4)])) rfl rfl (hb hby d3_29)
      obtain ⟨T114, lc114, X114, N114, e114, st114⟩ := own_mrg (n0 := n0) (h := h0) (g := (mkF m 33 #[.val (.ref r0), .val (.ref r1), .val (.ref r1)] [(.int (lcmpW w4 w5))])) (g' := (mkF m 53 #[.val (.ref r0), .val (.ref r1), .val (.ref r1)] [(.int v5)])) X106 (by
        by_cases hc33_2 : w4 = w5
        · obtain ⟨T107, X107, e107, st107⟩ := getF X106 hx hZ hown (host := "") (Or.inl (hw _ (List.mem_of_getElem? (i := 14) rfl))) Via.refl e106 F_leadMillis_r1 (g := (mkF m 37 #[.val (.ref r0), .val (.ref r1), .val (.ref r1)] [(.ref r1)])) rfl rfl (hb hby d3_37)
          obtain ⟨T108, X108, e108, st108⟩ := getF X107 hx hZ hown (host := "") (Or.inl (hw _ (List.mem_of_getElem? (i := 14) rfl))) Via.refl e107 F_leadMillis_r0 (g := (mkF m 41 #[.val (.ref r0), .val (.ref r1), .val (.ref r1)] [(.ref r0), (.long w6)])) rfl rfl (hb hby d3_41)
          obtain ⟨T111, lc111, X111, N111, e111, st111⟩ := own_mrg (n0 := n0) (h := h0) (g := (mkF m 45 #[.val (.ref r0), .val (.ref r1), .val (.ref r1)] [(.int (lcmpW w6 w7))])) (g' := (mkF m 53 #[.val (.ref r0), .val (.ref r1), .val (.ref r1)] [(.int v4)])) X108 (by
            by_cases hc45_3 : w6 = w7
            · have hgo109 : ∀ t, Steps p.tables e below (T108.setTop (mkF m 53 #[.val (.ref r0), .val (.ref r1), .val (.ref r1)] [(.int (1 : Int32))])) t → Steps p.tables e below (T108.setTop (mkF m 45 #[.val (.ref r0), .val (.ref r1), .val (.ref r1)] [(.int (lcmpW w6 w7))])) t := by
                intro t kt
                show Steps p.tables e below (T108.setTop (mkF m 45 #[.val (.ref r0), .val (.ref r1), .val (.ref r1)] [(.int (lcmpW w6 w7))])) _
                refine XS.ifNo X108.here hx rfl (hb hby d3_45) rfl ((if0 _ _).trans (teq (own_lc_eq hc45_3)).2) ?_
                show Steps p.tables e below (T108.setTop (mkF m 48 #[.val (.ref r0), .val (.ref r1), .val (.ref r1)] [])) _
                refine XS.iconst X108.here hx rfl (hb hby d3_48) ?_
                show Steps p.tables e below (T108.setTop (mkF m 49 #[.val (.ref r0), .val (.ref r1), .val (.ref r1)] [(.int (1 : Int32))])) _
                refine XS.goto X108.here hx rfl (pc0 := 49) (pc' := 53) rfl (hb hby d3_49) (by decide) (by decide) ?_
                exact kt
              refine own_arm hgo109 ?_
              exact own_armEnd X108 N0 e108 (by rw [hv4.trans (if_pos hc45_3)])
            · have hgo110 : ∀ t, Steps p.tables e below (T108.setTop (mkF m 53 #[.val (.ref r0), .val (.ref r1), .val (.ref r1)] [(.int (0 : Int32))])) t → Steps p.tables e below (T108.setTop (mkF m 45 #[.val (.ref r0), .val (.ref r1), .val (.ref r1)] [(.int (lcmpW w6 w7))])) t := by
                intro t kt
                show Steps p.tables e below (T108.setTop (mkF m 45 #[.val (.ref r0), .val (.ref r1), .val (.ref r1)] [(.int (lcmpW w6 w7))])) _
                refine XS.ifYes X108.here hx rfl (pc0 := 45) (pc' := 52) rfl (hb hby d3_45) rfl ((if0 _ _).trans (feq (own_lc_neq hc45_3)).2) (by decide) (by decide) ?_
                show Steps p.tables e below (T108.setTop (mkF m 52 #[.val (.ref r0), .val (.ref r1), .val (.ref r1)] [])) _
                refine XS.iconst X108.here hx rfl (hb hby d3_52) ?_
                exact kt
              refine own_arm hgo110 ?_
              exact own_armEnd X108 N0 e108 (by rw [hv4.trans (if_neg hc45_3)]))
          have hgo112 : ∀ t, Steps p.tables e below (T111.setTop (mkF m 53 #[.val (.ref r0), .val (.ref r1), .val (.ref r1)] [(.int v4)])) t → Steps p.tables e below (T106.setTop (mkF m 33 #[.val (.ref r0), .val (.ref r1), .val (.ref r1)] [(.int (lcmpW w4 w5))])) t := by
            intro t kt
            show Steps p.tables e below (T106.setTop (mkF m 33 #[.val (.ref r0), .val (.ref r1), .val (.ref r1)] [(.int (lcmpW w4 w5))])) _
            refine XS.ifNo X106.here hx rfl (hb hby d3_33) rfl ((if0 _ _).trans (teq (own_lc_eq hc33_2)).2) ?_
            show Steps p.tables e below (T106.setTop (mkF m 36 #[.val (.ref r0), .val (.ref r1), .val (.ref r1)] [])) _
            refine XS.aloadN X106.here hx rfl (hb hby d3_36) rfl rfl ?_
            show Steps p.tables e below (T106.setTop (mkF m 37 #[.val (.ref r0), .val (.ref r1), .val (.ref r1)] [(.ref r1)])) _
            refine st107 _ ?_
            show Steps p.tables e below (T107.setTop (mkF m 40 #[.val (.ref r0), .val (.ref r1), .val (.ref r1)] [(.long w6)])) _
            refine XS.aloadN X107.here hx rfl (hb hby d3_40) rfl rfl ?_
            show Steps p.tables e below (T107.setTop (mkF m 41 #[.val (.ref r0), .val (.ref r1), .val (.ref r1)] [(.ref r0), (.long w6)])) _
            refine st108 _ ?_
            show Steps p.tables e below (T108.setTop (mkF m 44 #[.val (.ref r0), .val (.ref r1), .val (.ref r1)] [(.long w7), (.long w6)])) _
            refine XS.lcmp X108.here hx rfl (hb hby d3_44) rfl ?_
            show Steps p.tables e below (T108.setTop (mkF m 45 #[.val (.ref r0), .val (.ref r1), .val (.ref r1)] [(.int (lcmpW w6 w7))])) _
            refine st111 _ ?_
            exact kt
          refine own_arm hgo112 ?_
          exact own_armEnd X111 N111 e111 (by rw [hv5.trans (if_pos hc33_2)])
        · have hgo113 : ∀ t, Steps p.tables e below (T106.setTop (mkF m 53 #[.val (.ref r0), .val (.ref r1), .val (.ref r1)] [(.int (0 : Int32))])) t → Steps p.tables e below (T106.setTop (mkF m 33 #[.val (.ref r0), .val (.ref r1), .val (.ref r1)] [(.int (lcmpW w4 w5))])) t := by
            intro t kt
            show Steps p.tables e below (T106.setTop (mkF m 33 #[.val (.ref r0), .val (.ref r1), .val (.ref r1)] [(.int (lcmpW w4 w5))])) _
            refine XS.ifYes X106.here hx rfl (pc0 := 33) (pc' := 52) rfl (hb hby d3_33) rfl ((if0 _ _).trans (feq (own_lc_neq hc33_2)).2) (by decide) (by decide) ?_
            show Steps p.tables e below (T106.setTop (mkF m 52 #[.val (.ref r0), .val (.ref r1), .val (.ref r1)] [])) _
            refine XS.iconst X106.here hx rfl (hb hby d3_52) ?_
            exact kt
          refine own_arm hgo113 ?_
          exact own_armEnd X106 N0 e106 (by rw [hv5.trans (if_neg hc33_2)]))
      have hgo115 : ∀ t, Steps p.tables e below (T114.setTop (mkF m 53 #[.val (.ref r0), .val (.ref r1), .val (.ref r1)] [(.int v5)])) t → Steps p.tables e below (T104.setTop (mkF m 21 #[.val (.ref r0), .val (.ref r1), .val (.ref r1)] [(.int (lcmpW w2 w3))])) t := by
        intro t kt
        show Steps p.tables e below (T104.setTop (mkF m 21 #[.val (.ref r0), .val (.ref r1), .val (.ref r1)] [(.int (lcmpW w2 w3))])) _
        refine XS.ifNo X104.here hx rfl (hb hby d3_21) rfl ((if0 _ _).trans (teq (own_lc_eq hc21_1)).2) ?_
        show Steps p.tables e below (T104.setTop (mkF m 24 #[.val (.ref r0), .val (.ref r1), .val (.ref r1)] [])) _
        refine XS.aloadN X104.here hx rfl (hb hby d3_24) rfl rfl ?_
        show Steps p.tables e below (T104.setTop (mkF m 25 #[.val (.ref r0), .val (.ref r1), .val (.ref r1)] [(.ref r1)])) _
        refine st105 _ ?_
        show Steps p.tables e below (T105.setTop (mkF m 28 #[.val (.ref r0), .val (.ref r1), .val (.ref r1)] [(.long w4)])) _
        refine XS.aloadN X105.here hx rfl (hb hby d3_28) rfl rfl ?_
        show Steps p.tables e below (T105.setTop (mkF m 29 #[.val (.ref r0), .val (.ref r1), .val (.ref r1)] [(.ref r0), (.long w4)])) _
        refine st106 _ ?_
        show Steps p.tables e below (T106.setTop (mkF m 32 #[.val (.ref r0), .val (.ref r1), .val (.ref r1)] [(.long w5), (.long w4)])) _
        refine XS.lcmp X106.here hx rfl (hb hby d3_32) rfl ?_
        show Steps p.tables e below (T106.setTop (mkF m 33 #[.val (.ref r0), .val (.ref r1), .val (.ref r1)] [(.int (lcmpW w4 w5))])) _
        refine st114 _ ?_
        exact kt
      refine own_arm hgo115 ?_
      exact own_armEnd X114 N114 e114 (by rw [hv6.trans (if_pos hc21_1)])
    · have hgo116 : ∀ t, Steps p.tables e below (T104.setTop (mkF m 53 #[.val (.ref r0), .val (.ref r1), .val (.ref r1)] [(.int (0 : Int32))])) t → Steps p.tables e below (T104.setTop (mkF m 21 #[.val (.ref r0), .val (.ref r1), .val (.ref r1)] [(.int (lcmpW w2 w3))])) t := by
        intro t kt
        show Steps p.tables e below (T104.setTop (mkF m 21 #[.val (.ref r0), .val (.ref r1), .val (.ref r1)] [(.int (lcmpW w2 w3))])) _
        refine XS.ifYes X104.here hx rfl (pc0 := 21) (pc' := 52) rfl (hb hby d3_21) rfl ((if0 _ _).trans (feq (own_lc_neq hc21_1)).2) (by decide) (by decide) ?_
        show Steps p.tables e below (T104.setTop (mkF m 52 #[.val (.ref r0), .val (.ref r1), .val (.ref r1)] [])) _
        refine XS.iconst X104.here hx rfl (hb hby d3_52) ?_
        exact kt
      refine own_arm hgo116 ?_
      exact own_armEnd X104 N0 e104 (by rw [hv6.trans (if_neg hc21_1)]))
  have hgo118 : ∀ t, Steps p.tables e below (T117.setTop (mkF m 53 #[.val (.ref r0), .val (.ref r1), .val (.ref r1)] [(.int v6)])) t → Steps p.tables e below (s₁.setTop (mkF m 0 #[.val (.ref r0), .val (.ref r1), .unset] [])) t := by
    intro t kt
    show Steps p.tables e below (s₁.setTop (mkF m 0 #[.val (.ref r0), .val (.ref r1), .unset] [])) _
    refine XS.aloadN X0.here hx rfl (hb hby d3_0) rfl rfl ?_
    show Steps p.tables e below (s₁.setTop (mkF m 1 #[.val (.ref r0), .val (.ref r1), .unset] [(.ref r1)])) _
    refine st101 _ ?_
    show Steps p.tables e below (T101.setTop (mkF m 4 #[.val (.ref r0), .val (.ref r1), .unset] [(.int (1 : Int32))])) _
    refine XS.ifNo X101.here hx rfl (hb hby d3_4) rfl ((if0 _ _).trans (feq (by decide : ¬ ((1 : Int32) = (0 : Int32)))).1) ?_
    show Steps p.tables e below (T101.setTop (mkF m 7 #[.val (.ref r0), .val (.ref r1), .unset] [])) _
    refine XS.aloadN X101.here hx rfl (hb hby d3_7) rfl rfl ?_
    show Steps p.tables e below (T101.setTop (mkF m 8 #[.val (.ref r0), .val (.ref r1), .unset] [(.ref r1)])) _
    refine st102 _ ?_
    show Steps p.tables e below (T102.setTop (mkF m 11 #[.val (.ref r0), .val (.ref r1), .unset] [(.ref r1)])) _
    refine XS.astoreN X102.here hx rfl (hb hby d3_11) rfl rfl (l' := #[.val (.ref r0), .val (.ref r1), .val (.ref r1)]) rfl ?_
    show Steps p.tables e below (T102.setTop (mkF m 12 #[.val (.ref r0), .val (.ref r1), .val (.ref r1)] [])) _
    refine XS.aloadN X102.here hx rfl (hb hby d3_12) rfl rfl ?_
    show Steps p.tables e below (T102.setTop (mkF m 13 #[.val (.ref r0), .val (.ref r1), .val (.ref r1)] [(.ref r1)])) _
    refine st103 _ ?_
    show Steps p.tables e below (T103.setTop (mkF m 16 #[.val (.ref r0), .val (.ref r1), .val (.ref r1)] [(.long w2)])) _
    refine XS.aloadN X103.here hx rfl (hb hby d3_16) rfl rfl ?_
    show Steps p.tables e below (T103.setTop (mkF m 17 #[.val (.ref r0), .val (.ref r1), .val (.ref r1)] [(.ref r0), (.long w2)])) _
    refine st104 _ ?_
    show Steps p.tables e below (T104.setTop (mkF m 20 #[.val (.ref r0), .val (.ref r1), .val (.ref r1)] [(.long w3), (.long w2)])) _
    refine XS.lcmp X104.here hx rfl (hb hby d3_20) rfl ?_
    show Steps p.tables e below (T104.setTop (mkF m 21 #[.val (.ref r0), .val (.ref r1), .val (.ref r1)] [(.int (lcmpW w2 w3))])) _
    refine st117 _ ?_
    exact kt
  refine own_go hgo118 ?_
  exact own_retZ X117 hx Bd.returns Bd.notSynchronized (hb hby d3_53) (by decide) (by decide) (by rw [hv6]; exact (own_ite01 (by rw [hv5]; exact (own_ite01 (by rw [hv4]; exact (own_ite01 (Or.inr rfl) (Or.inl rfl))) (Or.inl rfl))) (Or.inl rfl))) (by rw [e117]; exact ⟨(by subst hv6 hv5 hv4; rw [own_r3j]), N117, rfl⟩)
theorem pd4 : parseMethodDescriptor "(J)V" = some ⟨[.long], none⟩ := by decide +kernel
theorem d5_0 : decode jdk_35_method_24_code 0 = .ok (.sipush 128, 3) := by decide +kernel
theorem d5_3 : decode jdk_35_method_24_code 3 = .ok (.istore_n 2, 1) := by decide +kernel
theorem d5_4 : decode jdk_35_method_24_code 4 = .ok (.lload_n 0, 1) := by decide +kernel
theorem d5_5 : decode jdk_35_method_24_code 5 = .ok (.ldc2_w 230, 3) := by decide +kernel
theorem d5_8 : decode jdk_35_method_24_code 8 = .ok (.lcmp, 1) := by decide +kernel
theorem d5_9 : decode jdk_35_method_24_code 9 = .ok (.ifCond .lt 22, 3) := by decide +kernel
theorem d5_31 : decode jdk_35_method_24_code 31 = .ok (.new 1, 3) := by decide +kernel
theorem d5_34 : decode jdk_35_method_24_code 34 = .ok (.dup, 1) := by decide +kernel
theorem d5_35 : decode jdk_35_method_24_code 35 = .ok (.lload_n 0, 1) := by decide +kernel
theorem d5_36 : decode jdk_35_method_24_code 36 = .ok (.invokespecial 240, 3) := by decide +kernel
theorem d5_39 : decode jdk_35_method_24_code 39 = .ok (.areturn, 1) := by decide +kernel
theorem ef_5a (m : MethodId) (q0 : Int64) : entryFrame m #[(.long q0)] 3 = mkF m 0 #[.val (.long q0), .second, .unset] [] := by (first | (simp [entryFrame, mkF, argsToLocals, Value.category]; done) | rfl)
def Q5a (Z : State) (q0 : Int64) (h0 : Heap) (n0 : Nat) (v : Option Value) (h : Heap) (L : List Loc) : Prop := ∃ x0 : Addr, v = some (.ref x0) ∧ Fr n0 L ∧ Keep h0 h [] ∧ h0.size ≤ x0 ∧ Exa Z h x0 "java/lang/Long" ∧ Fld Z h x0 "java/lang/Long" "value" "J" (.long q0)
set_option maxRecDepth 65536 in
set_option maxHeartbeats 40000000 in
theorem rm5a (l : Launch) (Z : State) (a0 : Array Value) (hw : ∀ d ∈ tables_1, d.before a0 Z = true) (ws : List Jvm.Cond) (q0 : Int64) (h0 : Heap) (n0 : Nat) (Z0 : n0 ≤ h0.size) (ha : q0 < (-128 : Int64)) :
    MetFree l (⟨"java/lang/Long", "valueOf", "(J)Ljava/lang/Long;"⟩ : MethodName) (head1 (Jvm.Cond.code (⟨"java/lang/Long", "valueOf", "(J)Ljava/lang/Long;"⟩ : MethodName) jdk_35_method_24_code 3 (some (.object "java/lang/Long")) :: ws) ({ frames := 3, cells := 1, slots := 1, locals := 39 } : Room)) (fun a U => a = #[(.long q0)] ∧ Z.Warmed39 U.vm ∧ U.heap = h0) (fun _ _ _ _ _ => True) (fun _ U o U' => ∃ v L, o = .returned v ∧ Q5a Z q0 h0 n0 v U'.heap L ∧ FrameEnd U o U' L ({ frames := 3, cells := 1, slots := 1, locals := 39 } : Room).cells ({ frames := 3, cells := 1, slots := 1, locals := 39 } : Room).slots) := by
  refine MetFree.of_bodySF (plainFor_of_name pn3) hisR ?_
  intro p e s m args below meth c s₁ Bd hml0 hP hK
  obtain ⟨rfl, hZ, hh⟩ := hP
  have hx := Bd.exec
  have hby := Bd.bytes
  have hml : c.maxLocals = 3 := hml0
  have hown : s.vm.findClass "java/lang/Long" = some m.cls := findClass_of_methodNamed Bd.named
  have hnm := (name_of_methodNamed Bd.named Bd.method).1
  have X0 : Stand p l e ({ frames := 3, cells := 1, slots := 1, locals := 39 } : Room) s m #[(.long q0)] below meth c s₁ [] 0 0 := Stand.of_body Bd
  have e0 : s₁.heap = h0 := by rw [← hh, Bd.state]; rfl
  have N0 := Fr.nil n0
  have K0 : Keep h0 h0 [] := Keep.refl h0 _
  show own_Go p e below s (Q5a Z q0 h0 n0) ({ frames := 3, cells := 1, slots := 1, locals := 39 } : Room).cells ({ frames := 3, cells := 1, slots := 1, locals := 39 } : Room).slots (s₁.setTop (entryFrame m #[(.long q0)] 3))
  refine own_go (fun t k => castTop (ef_5a m q0) k) ?_
  obtain ⟨T101, h101, X101, e101, E101, A101, D101, -, st101⟩ := newO X0 hx hZ hown (hw _ (List.mem_of_getElem? (i := 33) rfl)) (hw _ (List.mem_of_getElem? (i := 34) rfl)) (hw _ (List.mem_of_getElem? (i := 29) rfl)) e0 (g := (mkF m 31 #[.val (.long q0), .second, .val (.int (128 : Int32))] [])) rfl (hb hby d5_31) (by decide) (by decide)
  obtain ⟨b101, g101⟩ : ∃ z, z = h0.size := ⟨_, rfl⟩
  rw [← g101] at A101 D101 st101
  have g_b101 : n0 ≤ b101 := Nat.le_trans Z0 (Nat.le_of_eq g101.symm)
  have sz_b101 : h0.size ≤ b101 := Nat.le_trans K0.1 (Nat.le_of_eq g101.symm)
  have Z102 : n0 ≤ h101.size := Nat.le_trans Z0 E101.1
  have K103 : Keep h0 h101 [] := K0.ext E101
  have F104 : Fld Z h101 b101 "java/lang/Long" "value" "J" (.long (0 : Int64)) := D101 (Or.inr (hw _ (List.mem_of_getElem? (i := 47) rfl))) (ty := .long) (by decide)
  obtain ⟨_, _, ⟨T105, L105, k105, n105⟩, -, X105, ⟨Lc105, hQ105, l105, y105, z105⟩, st105⟩ := X101.specialBack hx (y := (⟨"java/lang/Long", "<init>", "(J)V"⟩ : MethodName)) rfl hown (mvT hZ (hw _ (List.mem_of_getElem? (i := 35) rfl))) (mvT hZ (hw _ (List.mem_of_getElem? (i := 36) rfl))) (mvT hZ (hw _ (List.mem_of_getElem? (i := 38) rfl))) (by decide) (backOf (W := 1) (rm6 l Z a0 hw [] b101 q0 (0 : Int64) h101 n0 Z102 A101 F104 g_b101) hZ (hw _ (List.mem_of_getElem? (i := 38) rfl)) (hw _ (List.mem_of_getElem? (i := 29) rfl)) (by decide) (by decide)) (g := (mkF m 36 #[.val (.long q0), .second, .val (.int (128 : Int32))] [(.long q0), (.ref b101), (.ref b101)])) rfl (by rw [hml]; rfl) (Steps.refl _) (a := b101) (argsL := [(.long q0)]) (rest := [(.ref b101)]) (lenOf pd4 rfl) rfl (by show 2 * 0 + _ ≤ _; exact Nat.le_of_eq rfl) (hb hby d5_36) (fun _ _ => ⟨rfl, e101, (by decide : 1 + 0 ≤ _), (by decide : 1 + 0 ≤ _)⟩)
  dsimp only [Pt.U, Pt.locs, Pt.cells, Pt.slots] at X105 l105 y105 z105 st105 hQ105
  subst l105 y105 z105
  obtain ⟨rfl, N105q, K105q, F105_0, F105_1⟩ := hQ105
  have F106 := A101.keep K105q
  have Z107 : n0 ≤ T105.heap.size := Nat.le_trans Z102 K105q.1
  have K108 : Keep h0 T105.heap [] := K103.trans K105q (allS (Or.inr sz_b101) all0)
  have N105 := Fr.app N0 N105q
  have hgo109 : ∀ t, Steps p.tables e below (T105.setTop (mkF m 39 #[.val (.long q0), .second, .val (.int (128 : Int32))] [(.ref b101)])) t → Steps p.tables e below (s₁.setTop (mkF m 0 #[.val (.long q0), .second, .unset] [])) t := by
    intro t kt
    show Steps p.tables e below (s₁.setTop (mkF m 0 #[.val (.long q0), .second, .unset] [])) _
    refine XS.sipush X0.here hx rfl (hb hby d5_0) ?_
    show Steps p.tables e below (s₁.setTop (mkF m 3 #[.val (.long q0), .second, .unset] [(.int (128 : Int32))])) _
    refine XS.istoreN X0.here hx rfl (hb hby d5_3) rfl (l' := #[.val (.long q0), .second, .val (.int (128 : Int32))]) rfl ?_
    show Steps p.tables e below (s₁.setTop (mkF m 4 #[.val (.long q0), .second, .val (.int (128 : Int32))] [])) _
    refine XS.lloadN X0.here hx rfl (hb hby d5_4) rfl ?_
    show Steps p.tables e below (s₁.setTop (mkF m 5 #[.val (.long q0), .second, .val (.int (128 : Int32))] [(.long q0)])) _
    refine X0.ldc2Long hx hown (mvT hZ (hw _ (List.mem_of_getElem? (i := 31) rfl))) (g := (mkF m 5 #[.val (.long q0), .second, .val (.int (128 : Int32))] [(.long q0)])) rfl (hb hby d5_5) _ ?_
    show Steps p.tables e below (s₁.setTop (mkF m 8 #[.val (.long q0), .second, .val (.int (128 : Int32))] [(.long (-128 : Int64)), (.long q0)])) _
    refine XS.lcmp X0.here hx rfl (hb hby d5_8) rfl ?_
    show Steps p.tables e below (s₁.setTop (mkF m 9 #[.val (.long q0), .second, .val (.int (128 : Int32))] [(.int (lcmpW q0 (-128 : Int64)))])) _
    refine XS.ifYes X0.here hx rfl (pc0 := 9) (pc' := 31) rfl (hb hby d5_9) rfl ((if0 _ _).trans (tlt (own_lc_lt ha)).1) (by decide) (by decide) ?_
    show Steps p.tables e below (s₁.setTop (mkF m 31 #[.val (.long q0), .second, .val (.int (128 : Int32))] [])) _
    refine st101 _ ?_
    show Steps p.tables e below (T101.setTop (mkF m 34 #[.val (.long q0), .second, .val (.int (128 : Int32))] [(.ref b101)])) _
    refine XS.dup X101.here hx rfl (hb hby d5_34) rfl rfl ?_
    show Steps p.tables e below (T101.setTop (mkF m 35 #[.val (.long q0), .second, .val (.int (128 : Int32))] [(.ref b101), (.ref b101)])) _
    refine XS.lloadN X101.here hx rfl (hb hby d5_35) rfl ?_
    show Steps p.tables e below (T101.setTop (mkF m 36 #[.val (.long q0), .second, .val (.int (128 : Int32))] [(.long q0), (.ref b101), (.ref b101)])) _
    refine st105.trans ?_
    exact kt
  refine own_go hgo109 ?_
  exact own_retA X105 hx Bd.returns rfl rfl Bd.notSynchronized (hb hby d5_39) (by decide) (by decide) ⟨b101, (by rfl), N105, K108, sz_b101, F105_0, (by exact F105_1)⟩
theorem d5_12 : decode jdk_35_method_24_code 12 = .ok (.lload_n 0, 1) := by decide +kernel
theorem d5_13 : decode jdk_35_method_24_code 13 = .ok (.ldc2_w 232, 3) := by decide +kernel
theorem d5_16 : decode jdk_35_method_24_code 16 = .ok (.lcmp, 1) := by decide +kernel
theorem d5_17 : decode jdk_35_method_24_code 17 = .ok (.ifCond .gt 14, 3) := by decide +kernel
theorem ef_5b (m : MethodId) (q0 : Int64) : entryFrame m #[(.long q0)] 3 = mkF m 0 #[.val (.long q0), .second, .unset] [] := by (first | (simp [entryFrame, mkF, argsToLocals, Value.category]; done) | rfl)
def Q5b (Z : State) (q0 : Int64) (h0 : Heap) (n0 : Nat) (v : Option Value) (h : Heap) (L : List Loc) : Prop := ∃ x0 : Addr, v = some (.ref x0) ∧ Fr n0 L ∧ Keep h0 h [] ∧ h0.size ≤ x0 ∧ Exa Z h x0 "java/lang/Long" ∧ Fld Z h x0 "java/lang/Long" "value" "J" (.long q0)
set_option maxRecDepth 65536 in
set_option maxHeartbeats 40000000 in
theorem rm5b (l : Launch) (Z : State) (a0 : Array Value) (hw : ∀ d ∈ tables_1, d.before a0 Z = true) (ws : List Jvm.Cond) (q0 : Int64) (h0 : Heap) (n0 : Nat) (Z0 : n0 ≤ h0.size) (ha : ¬ (q0 < (-128 : Int64))) (hbb : (127 : Int64) < q0) :
    MetFree l (⟨"java/lang/Long", "valueOf", "(J)Ljava/lang/Long;"⟩ : MethodName) (head1 (Jvm.Cond.code (⟨"java/lang/Long", "valueOf", "(J)Ljava/lang/Long;"⟩ : MethodName) jdk_35_method_24_code 3 (some (.object "java/lang/Long")) :: ws) ({ frames := 3, cells := 1, slots := 1, locals := 39 } : Room)) (fun a U => a = #[(.long q0)] ∧ Z.Warmed39 U.vm ∧ U.heap = h0) (fun _ _ _ _ _ => True) (fun _ U o U' => ∃ v L, o = .returned v ∧ Q5b Z q0 h0 n0 v U'.heap L ∧ FrameEnd U o U' L ({ frames := 3, cells := 1, slots := 1, locals := 39 } : Room).cells ({ frames := 3, cells := 1, slots := 1, locals := 39 } : Room).slots) := by
  refine MetFree.of_bodySF (plainFor_of_name pn3) hisR ?_
  intro p e s m args below meth c s₁ Bd hml0 hP hK
  obtain ⟨rfl, hZ, hh⟩ := hP
  have hx := Bd.exec
  have hby := Bd.bytes
  have hml : c.maxLocals = 3 := hml0
  have hown : s.vm.findClass "java/lang/Long" = some m.cls := findClass_of_methodNamed Bd.named
  have hnm := (name_of_methodNamed Bd.named Bd.method).1
  have X0 : Stand p l e ({ frames := 3, cells := 1, slots := 1, locals := 39 } : Room) s m #[(.long q0)] below meth c s₁ [] 0 0 := Stand.of_body Bd
  have e0 : s₁.heap = h0 := by rw [← hh, Bd.state]; rfl
  have N0 := Fr.nil n0
  have K0 : Keep h0 h0 [] := Keep.refl h0 _
  show own_Go p e below s (Q5b Z q0 h0 n0) ({ frames := 3, cells := 1, slots := 1, locals := 39 } : Room).cells ({ frames := 3, cells := 1, slots := 1, locals := 39 } : Room).slots (s₁.setTop (entryFrame m #[(.long q0)] 3))
  refine own_go (fun t k => castTop (ef_5b m q0) k) ?_
  obtain ⟨T101, h101, X101, e101, E101, A101, D101, -, st101⟩ := newO X0 hx hZ hown (hw _ (List.mem_of_getElem? (i := 33) rfl)) (hw _ (List.mem_of_getElem? (i := 34) rfl)) (hw _ (List.mem_of_getElem? (i := 29) rfl)) e0 (g := (mkF m 31 #[.val (.long q0), .second, .val (.int (128 : Int32))] [])) rfl (hb hby d5_31) (by decide) (by decide)
  obtain ⟨b101, g101⟩ : ∃ z, z = h0.size := ⟨_, rfl⟩
  rw [← g101] at A101 D101 st101
  have g_b101 : n0 ≤ b101 := Nat.le_trans Z0 (Nat.le_of_eq g101.symm)
  have sz_b101 : h0.size ≤ b101 := Nat.le_trans K0.1 (Nat.le_of_eq g101.symm)
  have Z102 : n0 ≤ h101.size := Nat.le_trans Z0 E101.1
  have K103 : Keep h0 h101 [] := K0.ext E101
  have F104 : Fld Z h101 b101 "java/lang/Long" "value" "J" (.long (0 : Int64)) := D101 (Or.inr (hw _ (List.mem_of_getElem? (i := 47) rfl))) (ty := .long) (by decide)
  obtain ⟨_, _, ⟨T105, L105, k105, n105⟩, -, X105, ⟨Lc105, hQ105, l105, y105, z105⟩, st105⟩ := X101.specialBack hx (y := (⟨"java/lang/Long", "<init>", "(J)V"⟩ : MethodName)) rfl hown (mvT hZ (hw _ (List.mem_of_getElem? (i := 35) rfl))) (mvT hZ (hw _ (List.mem_of_getElem? (i := 36) rfl))) (mvT hZ (hw _ (List.mem_of_getElem? (i := 38) rfl))) (by decide) (backOf (W := 1) (rm6 l Z a0 hw [] b101 q0 (0 : Int64) h101 n0 Z102 A101 F104 g_b101) hZ (hw _ (List.mem_of_getElem? (i := 38) rfl)) (hw _ (List.mem_of_getElem? (i := 29) rfl)) (by decide) (by decide)) (g := (mkF m 36 #[.val (.long q0), .second, .val (.int (128 : Int32))] [(.long q0), (.ref b101), (.ref b101)])) rfl (by rw [hml]; rfl) (Steps.refl _) (a := b101) (argsL := [(.long q0)]) (rest := [(.ref b101)]) (lenOf pd4 rfl) rfl (by show 2 * 0 + _ ≤ _; exact Nat.le_of_eq rfl) (hb hby d5_36) (fun _ _ => ⟨rfl, e101, (by decide : 1 + 0 ≤ _), (by decide : 1 + 0 ≤ _)⟩)
  dsimp only [Pt.U, Pt.locs, Pt.cells, Pt.slots] at X105 l105 y105 z105 st105 hQ105
  subst l105 y105 z105
  obtain ⟨rfl, N105q, K105q, F105_0, F105_1⟩ := hQ105
  have F106 := A101.keep K105q
  have Z107 : n0 ≤ T105.heap.size := Nat.le_trans Z102 K105q.1
  have K108 : Keep h0 T105.heap [] := K103.trans K105q (allS (Or.inr sz_b101) all0)
  have N105 := Fr.app N0 N105q
  have hgo109 : ∀ t, Steps p.tables e below (T105.setTop (mkF m 39 #[.val (.long q0), .second, .val (.int (128 : Int32))] [(.ref b101)])) t → Steps p.tables e below (s₁.setTop (mkF m 0 #[.val (.long q0), .second, .unset] [])) t := by
    intro t kt
    show Steps p.tables e below (s₁.setTop (mkF m 0 #[.val (.long q0), .second, .unset] [])) _
    refine XS.sipush X0.here hx rfl (hb hby d5_0) ?_
    show Steps p.tables e below (s₁.setTop (mkF m 3 #[.val (.long q0), .second, .unset] [(.int (128 : Int32))])) _
    refine XS.istoreN X0.here hx rfl (hb hby d5_3) rfl (l' := #[.val (.long q0), .second, .val (.int (128 : Int32))]) rfl ?_
    show Steps p.tables e below (s₁.setTop (mkF m 4 #[.val (.long q0), .second, .val (.int (128 : Int32))] [])) _
    refine XS.lloadN X0.here hx rfl (hb hby d5_4) rfl ?_
    show Steps p.tables e below (s₁.setTop (mkF m 5 #[.val (.long q0), .second, .val (.int (128 : Int32))] [(.long q0)])) _
    refine X0.ldc2Long hx hown (mvT hZ (hw _ (List.mem_of_getElem? (i := 31) rfl))) (g := (mkF m 5 #[.val (.long q0), .second, .val (.int (128 : Int32))] [(.long q0)])) rfl (hb hby d5_5) _ ?_
    show Steps p.tables e below (s₁.setTop (mkF m 8 #[.val (.long q0), .second, .val (.int (128 : Int32))] [(.long (-128 : Int64)), (.long q0)])) _
    refine XS.lcmp X0.here hx rfl (hb hby d5_8) rfl ?_
    show Steps p.tables e below (s₁.setTop (mkF m 9 #[.val (.long q0), .second, .val (.int (128 : Int32))] [(.int (lcmpW q0 (-128 : Int64)))])) _
    refine XS.ifNo X0.here hx rfl (hb hby d5_9) rfl ((if0 _ _).trans (flt (own_lc_nlt ha)).1) ?_
    show Steps p.tables e below (s₁.setTop (mkF m 12 #[.val (.long q0), .second, .val (.int (128 : Int32))] [])) _
    refine XS.lloadN X0.here hx rfl (hb hby d5_12) rfl ?_
    show Steps p.tables e below (s₁.setTop (mkF m 13 #[.val (.long q0), .second, .val (.int (128 : Int32))] [(.long q0)])) _
    refine X0.ldc2Long hx hown (mvT hZ (hw _ (List.mem_of_getElem? (i := 32) rfl))) (g := (mkF m 13 #[.val (.long q0), .second, .val (.int (128 : Int32))] [(.long q0)])) rfl (hb hby d5_13) _ ?_
    show Steps p.tables e below (s₁.setTop (mkF m 16 #[.val (.long q0), .second, .val (.int (128 : Int32))] [(.long (127 : Int64)), (.long q0)])) _
    refine XS.lcmp X0.here hx rfl (hb hby d5_16) rfl ?_
    show Steps p.tables e below (s₁.setTop (mkF m 17 #[.val (.long q0), .second, .val (.int (128 : Int32))] [(.int (lcmpW q0 (127 : Int64)))])) _
    refine XS.ifYes X0.here hx rfl (pc0 := 17) (pc' := 31) rfl (hb hby d5_17) rfl ((if0 _ _).trans (tlt (own_lc_gt hbb)).2.2.1) (by decide) (by decide) ?_
    show Steps p.tables e below (s₁.setTop (mkF m 31 #[.val (.long q0), .second, .val (.int (128 : Int32))] [])) _
    refine st101 _ ?_
    show Steps p.tables e below (T101.setTop (mkF m 34 #[.val (.long q0), .second, .val (.int (128 : Int32))] [(.ref b101)])) _
    refine XS.dup X101.here hx rfl (hb hby d5_34) rfl rfl ?_
    show Steps p.tables e below (T101.setTop (mkF m 35 #[.val (.long q0), .second, .val (.int (128 : Int32))] [(.ref b101), (.ref b101)])) _
    refine XS.lloadN X101.here hx rfl (hb hby d5_35) rfl ?_
    show Steps p.tables e below (T101.setTop (mkF m 36 #[.val (.long q0), .second, .val (.int (128 : Int32))] [(.long q0), (.ref b101), (.ref b101)])) _
    refine st105.trans ?_
    exact kt
  refine own_go hgo109 ?_
  exact own_retA X105 hx Bd.returns rfl rfl Bd.notSynchronized (hb hby d5_39) (by decide) (by decide) ⟨b101, (by rfl), N105, K108, sz_b101, F105_0, (by exact F105_1)⟩
def own_LC (Z : State) (h : Heap) (a : Addr) : Prop := ∃ c : Cell, Arr Z h a c (.object "java/lang/Long") ∧ c.slots.size = 256 ∧ ∀ j, j < 256 → ∃ y, c.slots[j]? = some (.ref y) ∧ Exa Z h y "java/lang/Long"
theorem own_LC.lt {Z : State} {h : Heap} {a : Addr} (F : own_LC Z h a) : a < h.size := by obtain ⟨c, A, -⟩ := F; exact A.lt
theorem own_LC.ext {Z : State} {h h' : Heap} {a : Addr} (F : own_LC Z h a) (E : Ext h h') : own_LC Z h' a := by
  obtain ⟨c, A, S, H⟩ := F
  exact ⟨c, A.ext E, S, fun j hj => by obtain ⟨y, q, r⟩ := H j hj; exact ⟨y, q, r.ext E⟩⟩
theorem own_LC.other {Z : State} {h h' : Heap} {a b : Addr} {sl : Nat} {w : Value} (F : own_LC Z h a) (W : Wr h h' b sl w) (q : a ≠ b) : own_LC Z h' a := by
  obtain ⟨c, A, S, H⟩ := F
  exact ⟨c, A.other W q, S, fun j hj => by obtain ⟨y, q, r⟩ := H j hj; exact ⟨y, q, r.wr W⟩⟩
theorem own_LC.keep {Z : State} {h h' : Heap} {a : Addr} {ws : List Addr} (F : own_LC Z h a) (K : Keep h h' ws) (q : a ∉ ws) : own_LC Z h' a := by
  obtain ⟨c, A, S, H⟩ := F
  exact ⟨c, ⟨K.2.1 a c A.1 q, A.2⟩, S, fun j hj => by obtain ⟨y, q, r⟩ := H j hj; exact ⟨y, q, r.keep K⟩⟩
theorem own_ldLC {p : Program} {l : Launch} {e : Env} {R : Room} {s : State} {m : MethodId} {args : Array Value} {below : List Frame} {meth : Method} {c : Code} {T : State} {locs : List Loc} {cells slots : Nat} {Z : State} {h : Heap} (X : Stand p l e R s m args below meth c T locs cells slots) (hx : p.tables.exec = Jvm.exec) (hZ : Z.Warmed39 s.vm) (eT : T.heap = h) {a : Addr} (A : own_LC Z h a) {j : Int32} (hj : ¬ j < 0 ∧ j.toNatClampNeg < 256)
    {g : JFrame} (hg : g.method = m) {rest : List Value} (hs : g.stack = .int j :: .ref a :: rest) (hd : decode c.code g.pc = .ok (.aaload, 1)) : ∃ y, Exa Z h y "java/lang/Long" ∧ ∀ target, Steps p.tables e below (T.setTop { g with pc := g.pc + 1, stack := .ref y :: rest }) target → Steps p.tables e below (T.setTop g) target := by
  obtain ⟨c', Ar, S, H⟩ := A
  obtain ⟨y, q, r⟩ := H _ hj.2
  exact ⟨y, r, fun target k => X.aaload hx (by rw [eT]; exact Ar.1) (State.isArrayOf_alike hZ.alike Ar.2.1) rfl Ar.2.2 (own_inb S hj) q hg hs hd target k⟩
theorem own_add {a b : Int32} (h : -2147483648 ≤ a.toInt + b.toInt ∧ a.toInt + b.toInt < 2147483648) : (a + b).toInt = a.toInt + b.toInt := by
  rw [Int32.toInt_add]; exact Int.bmod_eq_of_le (by omega) (by omega)
theorem own_sub {a b : Int32} (h : -2147483648 ≤ a.toInt - b.toInt ∧ a.toInt - b.toInt < 2147483648) : (a - b).toInt = a.toInt - b.toInt := by
  rw [Int32.toInt_sub]; exact Int.bmod_eq_of_le (by omega) (by omega)
theorem own_ix256 {q : Int64} (h1 : ¬ (q < (-128 : Int64))) (h2 : ¬ ((127 : Int64) < q)) {v : Int32} (hv : v = ((q.toInt32) + (128 : Int32))) : ¬ v < 0 ∧ v.toNatClampNeg < 256 := by
  have a1 : -128 ≤ q.toInt := by rw [Int64.lt_iff_toInt_lt, show (-128 : Int64).toInt = -128 from rfl] at h1; omega
  have a2 : q.toInt ≤ 127 := by rw [Int64.lt_iff_toInt_lt, show (127 : Int64).toInt = 127 from rfl] at h2; omega
  have e1 : q.toInt32.toInt = q.toInt := by rw [Int64.toInt_toInt32]; exact Int.bmod_eq_of_le (by omega) (by omega)
  have e2 : v.toInt = q.toInt + 128 := by rw [hv, own_add (by rw [e1, show (128 : Int32).toInt = 128 from rfl]; omega), e1, show (128 : Int32).toInt = 128 from rfl]
  refine ⟨by rw [Int32.lt_iff_toInt_lt, e2, show (0 : Int32).toInt = 0 from rfl]; omega, ?_⟩
  show v.toInt.toNat < 256
  omega
theorem own_sym (a b c d e f : Int64) : own_r3j a b c d e f = own_r3j b a d c f e := by
  simp only [own_r3j]
  by_cases q1 : a = b <;> by_cases q2 : c = d <;> by_cases q3 : e = f <;> simp [q1, q2, q3, Ne.symm, eq_comm]
theorem own_self (a c e : Int64) : own_r3j a a c c e e = 1 := by simp [own_r3j]
theorem d5_20 : decode jdk_35_method_24_code 20 = .ok (.getstatic 234, 3) := by decide +kernel
theorem d5_23 : decode jdk_35_method_24_code 23 = .ok (.lload_n 0, 1) := by decide +kernel
theorem d5_24 : decode jdk_35_method_24_code 24 = .ok (.l2i, 1) := by decide +kernel
theorem d5_25 : decode jdk_35_method_24_code 25 = .ok (.sipush 128, 3) := by decide +kernel
theorem d5_28 : decode jdk_35_method_24_code 28 = .ok (.iadd, 1) := by decide +kernel
theorem d5_29 : decode jdk_35_method_24_code 29 = .ok (.aaload, 1) := by decide +kernel
theorem d5_30 : decode jdk_35_method_24_code 30 = .ok (.areturn, 1) := by decide +kernel
theorem ef_5c (m : MethodId) (q0 : Int64) : entryFrame m #[(.long q0)] 3 = mkF m 0 #[.val (.long q0), .second, .unset] [] := by (first | (simp [entryFrame, mkF, argsToLocals, Value.category]; done) | rfl)
def Q5c (Z : State) (q0 : Int64) (ulc : Addr) (h0 : Heap) (n0 : Nat) (v : Option Value) (h : Heap) (L : List Loc) : Prop := ∃ x0 : Addr, v = some (.ref x0) ∧ Fr n0 L ∧ Keep h0 h [] ∧ Exa Z h x0 "java/lang/Long"
set_option maxRecDepth 65536 in
set_option maxHeartbeats 40000000 in
theorem rm5c (l : Launch) (Z : State) (a0 : Array Value) (hw : ∀ d ∈ tables_1, d.before a0 Z = true) (ws : List Jvm.Cond) (q0 : Int64) (ulc : Addr) (h0 : Heap) (n0 : Nat) (Z0 : n0 ≤ h0.size) (S_lc : Sta Z h0 "java/lang/Long$LongCache" "cache" "[Ljava/lang/Long;" (.ref ulc)) (A_lc : own_LC Z h0 ulc) (ha : ¬ (q0 < (-128 : Int64))) (hbb : ¬ ((127 : Int64) < q0)) :
    MetFree l (⟨"java/lang/Long", "valueOf", "(J)Ljava/lang/Long;"⟩ : MethodName) (head1 (Jvm.Cond.code (⟨"java/lang/Long", "valueOf", "(J)Ljava/lang/Long;"⟩ : MethodName) jdk_35_method_24_code 3 (some (.object "java/lang/Long")) :: ws) ({ frames := 0, cells := 0, slots := 0, locals := 0 } : Room)) (fun a U => a = #[(.long q0)] ∧ Z.Warmed39 U.vm ∧ U.heap = h0) (fun _ _ _ _ _ => True) (fun _ U o U' => ∃ v L, o = .returned v ∧ Q5c Z q0 ulc h0 n0 v U'.heap L ∧ FrameEnd U o U' L ({ frames := 0, cells := 0, slots := 0, locals := 0 } : Room).cells ({ frames := 0, cells := 0, slots := 0, locals := 0 } : Room).slots) := by
  refine MetFree.of_bodySF (plainFor_of_name pn3) hisR ?_
  intro p e s m args below meth c s₁ Bd hml0 hP hK
  obtain ⟨rfl, hZ, hh⟩ := hP
  have hx := Bd.exec
  have hby := Bd.bytes
  have hml : c.maxLocals = 3 := hml0
  have hown : s.vm.findClass "java/lang/Long" = some m.cls := findClass_of_methodNamed Bd.named
  have hnm := (name_of_methodNamed Bd.named Bd.method).1
  have X0 : Stand p l e ({ frames := 0, cells := 0, slots := 0, locals := 0 } : Room) s m #[(.long q0)] below meth c s₁ [] 0 0 := Stand.of_body Bd
  have e0 : s₁.heap = h0 := by rw [← hh, Bd.state]; rfl
  have N0 := Fr.nil n0
  have K0 : Keep h0 h0 [] := Keep.refl h0 _
  show own_Go p e below s (Q5c Z q0 ulc h0 n0) ({ frames := 0, cells := 0, slots := 0, locals := 0 } : Room).cells ({ frames := 0, cells := 0, slots := 0, locals := 0 } : Room).slots (s₁.setTop (entryFrame m #[(.long q0)] 3))
  refine own_go (fun t k => castTop (ef_5c m q0) k) ?_
  obtain ⟨T101, X101, e101, st101⟩ := getS2 X0 hx hZ hown (host := "") (Or.inl (hw _ (List.mem_of_getElem? (i := 51) rfl))) Via.refl e0 S_lc (g := (mkF m 20 #[.val (.long q0), .second, .val (.int (128 : Int32))] [])) rfl (hb hby d5_20)
  obtain ⟨v1, hv1⟩ : ∃ z : Int32, z = ((q0.toInt32) + (128 : Int32)) := ⟨_, rfl⟩
  obtain ⟨y102, E102, st102⟩ := own_ldLC X101 hx hZ e101 A_lc (j := v1) (own_ix256 ha hbb hv1) (g := (mkF m 29 #[.val (.long q0), .second, .val (.int (128 : Int32))] [(.int v1), (.ref ulc)])) rfl rfl (hb hby d5_29)
  have hgo103 : ∀ t, Steps p.tables e below (T101.setTop (mkF m 30 #[.val (.long q0), .second, .val (.int (128 : Int32))] [(.ref y102)])) t → Steps p.tables e below (s₁.setTop (mkF m 0 #[.val (.long q0), .second, .unset] [])) t := by
    intro t kt
    show Steps p.tables e below (s₁.setTop (mkF m 0 #[.val (.long q0), .second, .unset] [])) _
    refine XS.sipush X0.here hx rfl (hb hby d5_0) ?_
    show Steps p.tables e below (s₁.setTop (mkF m 3 #[.val (.long q0), .second, .unset] [(.int (128 : Int32))])) _
    refine XS.istoreN X0.here hx rfl (hb hby d5_3) rfl (l' := #[.val (.long q0), .second, .val (.int (128 : Int32))]) rfl ?_
    show Steps p.tables e below (s₁.setTop (mkF m 4 #[.val (.long q0), .second, .val (.int (128 : Int32))] [])) _
    refine XS.lloadN X0.here hx rfl (hb hby d5_4) rfl ?_
    show Steps p.tables e below (s₁.setTop (mkF m 5 #[.val (.long q0), .second, .val (.int (128 : Int32))] [(.long q0)])) _
    refine X0.ldc2Long hx hown (mvT hZ (hw _ (List.mem_of_getElem? (i := 31) rfl))) (g := (mkF m 5 #[.val (.long q0), .second, .val (.int (128 : Int32))] [(.long q0)])) rfl (hb hby d5_5) _ ?_
    show Steps p.tables e below (s₁.setTop (mkF m 8 #[.val (.long q0), .second, .val (.int (128 : Int32))] [(.long (-128 : Int64)), (.long q0)])) _
    refine XS.lcmp X0.here hx rfl (hb hby d5_8) rfl ?_
    show Steps p.tables e below (s₁.setTop (mkF m 9 #[.val (.long q0), .second, .val (.int (128 : Int32))] [(.int (lcmpW q0 (-128 : Int64)))])) _
    refine XS.ifNo X0.here hx rfl (hb hby d5_9) rfl ((if0 _ _).trans (flt (own_lc_nlt ha)).1) ?_
    show Steps p.tables e below (s₁.setTop (mkF m 12 #[.val (.long q0), .second, .val (.int (128 : Int32))] [])) _
    refine XS.lloadN X0.here hx rfl (hb hby d5_12) rfl ?_
    show Steps p.tables e below (s₁.setTop (mkF m 13 #[.val (.long q0), .second, .val (.int (128 : Int32))] [(.long q0)])) _
    refine X0.ldc2Long hx hown (mvT hZ (hw _ (List.mem_of_getElem? (i := 32) rfl))) (g := (mkF m 13 #[.val (.long q0), .second, .val (.int (128 : Int32))] [(.long q0)])) rfl (hb hby d5_13) _ ?_
    show Steps p.tables e below (s₁.setTop (mkF m 16 #[.val (.long q0), .second, .val (.int (128 : Int32))] [(.long (127 : Int64)), (.long q0)])) _
    refine XS.lcmp X0.here hx rfl (hb hby d5_16) rfl ?_
    show Steps p.tables e below (s₁.setTop (mkF m 17 #[.val (.long q0), .second, .val (.int (128 : Int32))] [(.int (lcmpW q0 (127 : Int64)))])) _
    refine XS.ifNo X0.here hx rfl (hb hby d5_17) rfl ((if0 _ _).trans (flt (own_lc_ngt hbb)).2.2.1) ?_
    show Steps p.tables e below (s₁.setTop (mkF m 20 #[.val (.long q0), .second, .val (.int (128 : Int32))] [])) _
    refine st101 _ ?_
    show Steps p.tables e below (T101.setTop (mkF m 23 #[.val (.long q0), .second, .val (.int (128 : Int32))] [(.ref ulc)])) _
    refine XS.lloadN X101.here hx rfl (hb hby d5_23) rfl ?_
    show Steps p.tables e below (T101.setTop (mkF m 24 #[.val (.long q0), .second, .val (.int (128 : Int32))] [(.long q0), (.ref ulc)])) _
    refine XS.l2i X101.here hx rfl (hb hby d5_24) rfl ?_
    show Steps p.tables e below (T101.setTop (mkF m 25 #[.val (.long q0), .second, .val (.int (128 : Int32))] [(.int (q0.toInt32)), (.ref ulc)])) _
    refine XS.sipush X101.here hx rfl (hb hby d5_25) ?_
    show Steps p.tables e below (T101.setTop (mkF m 28 #[.val (.long q0), .second, .val (.int (128 : Int32))] [(.int (128 : Int32)), (.int (q0.toInt32)), (.ref ulc)])) _
    refine XS.iadd X101.here hx rfl (hb hby d5_28) rfl ?_
    show Steps p.tables e below (T101.setTop (mkF m 29 #[.val (.long q0), .second, .val (.int (128 : Int32))] [(.int ((q0.toInt32) + (128 : Int32))), (.ref ulc)])) _
    rw [← hv1]
    show Steps p.tables e below (T101.setTop (mkF m 29 #[.val (.long q0), .second, .val (.int (128 : Int32))] [(.int v1), (.ref ulc)])) _
    refine st102 _ ?_
    exact kt
  refine own_go hgo103 ?_
  exact own_retA X101 hx Bd.returns rfl rfl Bd.notSynchronized (hb hby d5_30) (by decide) (by decide) (by rw [e101]; exact ⟨y102, (by rfl), N0, K0, E102⟩)
theorem own_LC.start {s : State} {args : Array Value} {t : Term} {u : Addr} {W : Jvm.Cond} (et : ∀ idx, t.eval args s none idx s = some (.ref u)) (ha : (Jvm.Cond.arrayOf t (.object "java/lang/Long")).value args s none s [] = some true) (hl : (Jvm.Cond.eq (.length t) (.int 256)).value args s none s [] = some true)
    (hall : (Jvm.Cond.all t (.and (.exactly (.elem t (.index 0)) "java/lang/Long") W)).value args s none s [] = some true) : own_LC s s.heap u := by
  obtain ⟨c, A⟩ := Arr.start (et []) ha
  have hA := A.fin (U := s) (Vm.Alike.refl _)
  obtain ⟨x, y, hx, hy, -, -⟩ := cmp_v (Or.inl hl)
  have hb : c.slots.size < 2 ^ 31 := Decidable.byContradiction fun q => by
    simp [Term.eval, et, hA, q] at hx
  have hx2 := len_f (et []) hA hb
  have q := gotT (P := c.slots.size.toInt32 = 256) (u := (Jvm.Cond.eq (.length t) (.int 256)).value args s none s []) (by simp [Cond.value, hx2, Term.int_eval]) hl
  have hsz : c.slots.size = 256 := by
    have q2 : (Int32.ofNat c.slots.size).toInt = _ := congrArg Int32.toInt q
    rw [Int32.toInt_ofNat', show (Int32.size : Nat) = 2 ^ 32 from rfl, show (256 : Int32).toInt = 256 from rfl, Int.bmod_eq_of_le (by omega) (by omega)] at q2
    omega
  refine ⟨c, A, hsz, fun j hj => ?_⟩
  have q := (and_e (Cond.all_elim (et []) hA hall j (by rw [hsz]; exact hj))).1
  obtain ⟨a, cc, cell, k, e1, e2, e3, e4, e5, rfl, e7⟩ := Cond.exactly_spec (beq_iff_eq.mpr q : (Jvm.Cond.exactly (.elem t (.index 0)) "java/lang/Long").holds args s none s [j] = true)
  have hi : (Term.index 0).eval args s none [j] s = some (.int j.toInt32) := rfl
  have hj2 : j.toInt32.toNatClampNeg = j := by
    show (Int32.ofNat j).toInt.toNat = j
    rw [Int32.toInt_ofNat', show (Int32.size : Nat) = 2 ^ 32 from rfl, Int.bmod_eq_of_le (by omega) (by omega)]
    omega
  obtain ⟨-, q3⟩ := elem_in e1 (et [j]) hi A.1
  rw [hj2] at q3
  exact ⟨a, q3, cell, k, e3, e2, e4, e5, e7⟩
theorem pd5 : parseMethodDescriptor "(JJJ)V" = some ⟨[.long, .long, .long], none⟩ := by decide +kernel
theorem pd6 : parseMethodDescriptor "(Ljava/lang/Object;)Z" = some ⟨[(.object "java/lang/Object")], some .boolean⟩ := by decide +kernel
theorem pd7 : parseMethodDescriptor "(J)Ljava/lang/Long;" = some ⟨[.long], some (.object "java/lang/Long")⟩ := by decide +kernel
theorem ef_0 (m : MethodId) (q0 : Int64) (q1 : Int64) (q2 : Int64) (q3 : Int64) (p4 : Int32) : entryFrame m #[(.long q0), (.long q1), (.long q2), (.long q3), (.int p4)] maxLocals = mkF m 0 #[.val (.long q0), .second, .val (.long q1), .second, .val (.long q2), .second, .val (.long q3), .second, .val (.int p4), .unset, .unset, .unset, .unset, .unset, .unset, .unset, .unset, .unset, .unset, .unset, .unset, .unset, .unset, .unset, .unset, .unset, .unset, .unset] [] := by (first | (simp [entryFrame, mkF, argsToLocals, Value.category, maxLocals]; done) | rfl)
set_option maxRecDepth 65536 in
theorem own_leaf0 {q0 q1 q2 q3 v5 v7 v9 : Int64} {p4 v2 v10 v14 : Int32} {ulc : Addr} (hv2 : v2 = (if (p4 &&& (8 : Int32)) = (0 : Int32) then (0 : Int32) else (1 : Int32))) (hv5 : v5 = (if (p4 &&& (1 : Int32)) = (0 : Int32) then q0 else q3)) (hv7 : v7 = (if (p4 &&& (2 : Int32)) = (0 : Int32) then q1 else q3)) (hv9 : v9 = (if (p4 &&& (4 : Int32)) = (0 : Int32) then q2 else q3)) (hv10 : v10 = (((p4.toUInt32 >>> ((4 : Int32) &&& 31).toUInt32).toInt32) &&& (3 : Int32))) (hv14 : v14 = (if (own_r3j q0 q0 q1 q1 q2 q2) = (0 : Int32) then (0 : Int32) else (1 : Int32))) (hc17_3 : v2 = (0 : Int32)) (hc157_11 : v10 = (0 : Int32)) : v14 = 1 := by simp only [hv14, own_self]; simp
set_option maxRecDepth 65536 in
theorem own_leaf1 {q0 q1 q2 q3 v5 v7 v9 : Int64} {p4 v2 v10 v18 : Int32} {ulc : Addr} (hv2 : v2 = (if (p4 &&& (8 : Int32)) = (0 : Int32) then (0 : Int32) else (1 : Int32))) (hv5 : v5 = (if (p4 &&& (1 : Int32)) = (0 : Int32) then q0 else q3)) (hv7 : v7 = (if (p4 &&& (2 : Int32)) = (0 : Int32) then q1 else q3)) (hv9 : v9 = (if (p4 &&& (4 : Int32)) = (0 : Int32) then q2 else q3)) (hv10 : v10 = (((p4.toUInt32 >>> ((4 : Int32) &&& 31).toUInt32).toInt32) &&& (3 : Int32))) (hv18 : v18 = (if (own_r3j q0 q0 q1 q1 q2 q2) = (0 : Int32) then (0 : Int32) else (1 : Int32))) (hc17_3 : v2 = (0 : Int32)) (hc157_11 : ¬ (v10 = (0 : Int32))) (hc172_15 : v10 = (1 : Int32)) (hs177_16 : q0 < (-128 : Int64)) : v18 = 1 := by simp only [hv18, own_self]; simp
set_option maxRecDepth 65536 in
theorem own_leaf2 {q0 q1 q2 q3 v5 v7 v9 : Int64} {p4 v2 v10 v21 : Int32} {ulc : Addr} (hv2 : v2 = (if (p4 &&& (8 : Int32)) = (0 : Int32) then (0 : Int32) else (1 : Int32))) (hv5 : v5 = (if (p4 &&& (1 : Int32)) = (0 : Int32) then q0 else q3)) (hv7 : v7 = (if (p4 &&& (2 : Int32)) = (0 : Int32) then q1 else q3)) (hv9 : v9 = (if (p4 &&& (4 : Int32)) = (0 : Int32) then q2 else q3)) (hv10 : v10 = (((p4.toUInt32 >>> ((4 : Int32) &&& 31).toUInt32).toInt32) &&& (3 : Int32))) (hv21 : v21 = (if (own_r3j q0 q0 q1 q1 q2 q2) = (0 : Int32) then (0 : Int32) else (1 : Int32))) (hc17_3 : v2 = (0 : Int32)) (hc157_11 : ¬ (v10 = (0 : Int32))) (hc172_15 : v10 = (1 : Int32)) (hs177_16 : ¬ (q0 < (-128 : Int64))) (hs177_19 : (127 : Int64) < q0) : v21 = 1 := by simp only [hv21, own_self]; simp
set_option maxRecDepth 65536 in
theorem own_leaf3 {q0 q1 q2 q3 v5 v7 v9 : Int64} {p4 v2 v10 v23 : Int32} {ulc : Addr} (hv2 : v2 = (if (p4 &&& (8 : Int32)) = (0 : Int32) then (0 : Int32) else (1 : Int32))) (hv5 : v5 = (if (p4 &&& (1 : Int32)) = (0 : Int32) then q0 else q3)) (hv7 : v7 = (if (p4 &&& (2 : Int32)) = (0 : Int32) then q1 else q3)) (hv9 : v9 = (if (p4 &&& (4 : Int32)) = (0 : Int32) then q2 else q3)) (hv10 : v10 = (((p4.toUInt32 >>> ((4 : Int32) &&& 31).toUInt32).toInt32) &&& (3 : Int32))) (hv23 : v23 = (if (own_r3j q0 q0 q1 q1 q2 q2) = (0 : Int32) then (0 : Int32) else (1 : Int32))) (hc17_3 : v2 = (0 : Int32)) (hc157_11 : ¬ (v10 = (0 : Int32))) (hc172_15 : v10 = (1 : Int32)) (hs177_16 : ¬ (q0 < (-128 : Int64))) (hs177_19 : ¬ ((127 : Int64) < q0)) : v23 = 1 := by simp only [hv23, own_self]; simp
set_option maxRecDepth 65536 in
theorem own_leaf4 {q0 q1 q2 q3 v5 v7 v9 : Int64} {p4 v2 v10 v27 v28 v29 v32 v33 v37 v38 v39 : Int32} {ulc : Addr} (hv2 : v2 = (if (p4 &&& (8 : Int32)) = (0 : Int32) then (0 : Int32) else (1 : Int32))) (hv5 : v5 = (if (p4 &&& (1 : Int32)) = (0 : Int32) then q0 else q3)) (hv7 : v7 = (if (p4 &&& (2 : Int32)) = (0 : Int32) then q1 else q3)) (hv9 : v9 = (if (p4 &&& (4 : Int32)) = (0 : Int32) then q2 else q3)) (hv10 : v10 = (((p4.toUInt32 >>> ((4 : Int32) &&& 31).toUInt32).toInt32) &&& (3 : Int32))) (hv27 : v27 = (if v9 = q2 then (1 : Int32) else (0 : Int32))) (hv28 : v28 = (if v7 = q1 then v27 else (0 : Int32))) (hv29 : v29 = (if v5 = q0 then v28 else (0 : Int32))) (hv32 : v32 = (if (own_r3j q0 v5 q1 v7 q2 v9) = v29 then (1 : Int32) else (0 : Int32))) (hv33 : v33 = (if v10 < (2 : Int32) then (1 : Int32) else v32)) (hv37 : v37 = (if (own_r3j q0 q0 q1 q1 q2 q2) = (0 : Int32) then (0 : Int32) else (1 : Int32))) (hv38 : v38 = (if v33 = (0 : Int32) then (0 : Int32) else v37)) (hv39 : v39 = (if (own_r3j v5 q0 v7 q1 v9 q2) = v29 then v38 else (0 : Int32))) (hc17_3 : v2 = (0 : Int32)) (hc157_11 : ¬ (v10 = (0 : Int32))) (hc172_15 : ¬ (v10 = (1 : Int32))) : v39 = 1 := by
  have e : (own_r3j v5 q0 v7 q1 v9 q2) = v29 := by rw [hv29, hv28, hv27]; rfl
  have e2 : (own_r3j q0 v5 q1 v7 q2 v9) = v29 := (own_sym _ _ _ _ _ _).trans e
  rw [hv39, if_pos e, hv38, hv33, hv32, if_pos e2, hv37, own_self]
  simp
set_option maxRecDepth 65536 in
theorem own_leaf5 {q0 q1 q2 q3 v41 v43 v45 : Int64} {p4 v2 v46 v50 : Int32} {ulc : Addr} (hv2 : v2 = (if (p4 &&& (8 : Int32)) = (0 : Int32) then (0 : Int32) else (1 : Int32))) (hv41 : v41 = (if (p4 &&& (1 : Int32)) = (0 : Int32) then (-9223372036854775808 : Int64) else q3)) (hv43 : v43 = (if (p4 &&& (2 : Int32)) = (0 : Int32) then (-9223372036854775808 : Int64) else q3)) (hv45 : v45 = (if (p4 &&& (4 : Int32)) = (0 : Int32) then (0 : Int64) else q3)) (hv46 : v46 = (((p4.toUInt32 >>> ((4 : Int32) &&& 31).toUInt32).toInt32) &&& (3 : Int32))) (hv50 : v50 = (if (own_r3j (-9223372036854775808 : Int64) (-9223372036854775808 : Int64) (-9223372036854775808 : Int64) (-9223372036854775808 : Int64) (0 : Int64) (0 : Int64)) = (0 : Int32) then (0 : Int32) else (1 : Int32))) (hc17_3 : ¬ (v2 = (0 : Int32))) (hc157_47 : v46 = (0 : Int32)) : v50 = 1 := by simp only [hv50, own_self]; simp
set_option maxRecDepth 65536 in
theorem own_leaf6 {q0 q1 q2 q3 v41 v43 v45 : Int64} {p4 v2 v46 v53 : Int32} {ulc : Addr} (hv2 : v2 = (if (p4 &&& (8 : Int32)) = (0 : Int32) then (0 : Int32) else (1 : Int32))) (hv41 : v41 = (if (p4 &&& (1 : Int32)) = (0 : Int32) then (-9223372036854775808 : Int64) else q3)) (hv43 : v43 = (if (p4 &&& (2 : Int32)) = (0 : Int32) then (-9223372036854775808 : Int64) else q3)) (hv45 : v45 = (if (p4 &&& (4 : Int32)) = (0 : Int32) then (0 : Int64) else q3)) (hv46 : v46 = (((p4.toUInt32 >>> ((4 : Int32) &&& 31).toUInt32).toInt32) &&& (3 : Int32))) (hv53 : v53 = (if (own_r3j (-9223372036854775808 : Int64) (-9223372036854775808 : Int64) (-9223372036854775808 : Int64) (-9223372036854775808 : Int64) (0 : Int64) (0 : Int64)) = (0 : Int32) then (0 : Int32) else (1 : Int32))) (hc17_3 : ¬ (v2 = (0 : Int32))) (hc157_47 : ¬ (v46 = (0 : Int32))) (hc172_51 : v46 = (1 : Int32)) : v53 = 1 := by simp only [hv53, own_self]; simp
set_option maxRecDepth 65536 in
theorem own_leaf7 {q0 q1 q2 q3 v41 v43 v45 : Int64} {p4 v2 v46 v57 v58 v59 v62 v63 v67 v68 v69 : Int32} {ulc : Addr} (hv2 : v2 = (if (p4 &&& (8 : Int32)) = (0 : Int32) then (0 : Int32) else (1 : Int32))) (hv41 : v41 = (if (p4 &&& (1 : Int32)) = (0 : Int32) then (-9223372036854775808 : Int64) else q3)) (hv43 : v43 = (if (p4 &&& (2 : Int32)) = (0 : Int32) then (-9223372036854775808 : Int64) else q3)) (hv45 : v45 = (if (p4 &&& (4 : Int32)) = (0 : Int32) then (0 : Int64) else q3)) (hv46 : v46 = (((p4.toUInt32 >>> ((4 : Int32) &&& 31).toUInt32).toInt32) &&& (3 : Int32))) (hv57 : v57 = (if v45 = (0 : Int64) then (1 : Int32) else (0 : Int32))) (hv58 : v58 = (if v43 = (-9223372036854775808 : Int64) then v57 else (0 : Int32))) (hv59 : v59 = (if v41 = (-9223372036854775808 : Int64) then v58 else (0 : Int32))) (hv62 : v62 = (if (own_r3j (-9223372036854775808 : Int64) v41 (-9223372036854775808 : Int64) v43 (0 : Int64) v45) = v59 then (1 : Int32) else (0 : Int32))) (hv63 : v63 = (if v46 < (2 : Int32) then (1 : Int32) else v62)) (hv67 : v67 = (if (own_r3j (-9223372036854775808 : Int64) (-9223372036854775808 : Int64) (-9223372036854775808 : Int64) (-9223372036854775808 : Int64) (0 : Int64) (0 : Int64)) = (0 : Int32) then (0 : Int32) else (1 : Int32))) (hv68 : v68 = (if v63 = (0 : Int32) then (0 : Int32) else v67)) (hv69 : v69 = (if (own_r3j v41 (-9223372036854775808 : Int64) v43 (-9223372036854775808 : Int64) v45 (0 : Int64)) = v59 then v68 else (0 : Int32))) (hc17_3 : ¬ (v2 = (0 : Int32))) (hc157_47 : ¬ (v46 = (0 : Int32))) (hc172_51 : ¬ (v46 = (1 : Int32))) : v69 = 1 := by
  have e : (own_r3j v41 (-9223372036854775808 : Int64) v43 (-9223372036854775808 : Int64) v45 (0 : Int64)) = v59 := by rw [hv59, hv58, hv57]; rfl
  have e2 : (own_r3j (-9223372036854775808 : Int64) v41 (-9223372036854775808 : Int64) v43 (0 : Int64) v45) = v59 := (own_sym _ _ _ _ _ _).trans e
  rw [hv69, if_pos e, hv68, hv63, hv62, if_pos e2, hv67, own_self]
  simp
theorem pn8 : plainName "com/example/millrace/millrace/queue/JournalClockEqualsPinLaw" = true := by first | (simp [plainName, overriddenIn]; done) | decide +kernel
def Q0 (Z : State) (q0 : Int64) (q1 : Int64) (q2 : Int64) (q3 : Int64) (p4 : Int32) (ulc : Addr) (h0 : Heap) (n0 : Nat) (v : Option Value) (h : Heap) (L : List Loc) : Prop := v = some (.int 1) ∧ Fr n0 L
set_option maxRecDepth 65536 in
set_option maxHeartbeats 40000000 in
theorem rm0 (l : Launch) (Z : State) (a0 : Array Value) (hw : ∀ d ∈ tables_1, d.before a0 Z = true) (ws : List Jvm.Cond) (q0 : Int64) (q1 : Int64) (q2 : Int64) (q3 : Int64) (p4 : Int32) (ulc : Addr) (h0 : Heap) (n0 : Nat) (Z0 : n0 ≤ h0.size) (S_lc : Sta Z h0 "java/lang/Long$LongCache" "cache" "[Ljava/lang/Long;" (.ref ulc)) (A_lc : own_LC Z h0 ulc) :
    MetFree l x (head1 (Jvm.Cond.code x code maxLocals ret :: ws) room_1) (fun a U => a = #[(.long q0), (.long q1), (.long q2), (.long q3), (.int p4)] ∧ Z.Warmed39 U.vm ∧ U.heap = h0) (fun _ _ _ _ _ => True) (fun _ U o U' => ∃ v L, o = .returned v ∧ Q0 Z q0 q1 q2 q3 p4 ulc h0 n0 v U'.heap L ∧ FrameEnd U o U' L room_1.cells room_1.slots) := by
  refine MetFree.of_bodySF (plainFor_of_name pn8) hisR ?_
  intro p e s m args below meth c s₁ Bd hml0 hP hK
  obtain ⟨rfl, hZ, hh⟩ := hP
  have hx := Bd.exec
  have hby := Bd.bytes
  have hml : c.maxLocals = 28 := hml0
  have hown : s.vm.findClass "com/example/millrace/millrace/queue/JournalClockEqualsPinLaw" = some m.cls := findClass_of_methodNamed Bd.named
  have hnm := (name_of_methodNamed Bd.named Bd.method).1
  have X0 : Stand p l e room_1 s m #[(.long q0), (.long q1), (.long q2), (.long q3), (.int p4)] below meth c s₁ [] 0 0 := Stand.of_body Bd
  have e0 : s₁.heap = h0 := by rw [← hh, Bd.state]; rfl
  have N0 := Fr.nil n0
  have K0 : Keep h0 h0 [] := Keep.refl h0 _
  show own_Go p e below s (Q0 Z q0 q1 q2 q3 p4 ulc h0 n0) room_1.cells room_1.slots (s₁.setTop (entryFrame m #[(.long q0), (.long q1), (.long q2), (.long q3), (.int p4)] maxLocals))
  refine own_go (fun t k => castTop (ef_0 m q0 q1 q2 q3 p4) k) ?_
  obtain ⟨v2, hv2⟩ : ∃ z : Int32, z = (if (p4 &&& (8 : Int32)) = (0 : Int32) then (0 : Int32) else (1 : Int32)) := ⟨_, rfl⟩
  obtain ⟨T103, lc103, X103, N103, e103, st103⟩ := own_mrg (n0 := n0) (h := h0) (g := (mkF m 5 #[.val (.long q0), .second, .val (.long q1), .second, .val (.long q2), .second, .val (.long q3), .second, .val (.int p4), .unset, .unset, .unset, .unset, .unset, .unset, .unset, .unset, .unset, .unset, .unset, .unset, .unset, .unset, .unset, .unset, .unset, .unset, .unset] [(.int (p4 &&& (8 : Int32)))])) (g' := (mkF m 13 #[.val (.long q0), .second, .val (.long q1), .second, .val (.long q2), .second, .val (.long q3), .second, .val (.int p4), .unset, .unset, .unset, .unset, .unset, .unset, .unset, .unset, .unset, .unset, .unset, .unset, .unset, .unset, .unset, .unset, .unset, .unset, .unset] [(.int v2)])) X0 (by
    by_cases hc5_1 : (p4 &&& (8 : Int32)) = (0 : Int32)
    · have hgo101 : ∀ t, Steps p.tables e below (s₁.setTop (mkF m 13 #[.val (.long q0), .second, .val (.long q1), .second, .val (.long q2), .second, .val (.long q3), .second, .val (.int p4), .unset, .unset, .unset, .unset, .unset, .unset, .unset, .unset, .unset, .unset, .unset, .unset, .unset, .unset, .unset, .unset, .unset, .unset, .unset] [(.int (0 : Int32))])) t → Steps p.tables e below (s₁.setTop (mkF m 5 #[.val (.long q0), .second, .val (.long q1), .second, .val (.long q2), .second, .val (.long q3), .second, .val (.int p4), .unset, .unset, .unset, .unset, .unset, .unset, .unset, .unset, .unset, .unset, .unset, .unset, .unset, .unset, .unset, .unset, .unset, .unset, .unset] [(.int (p4 &&& (8 : Int32)))])) t := by
        intro t kt
        show Steps p.tables e below (s₁.setTop (mkF m 5 #[.val (.long q0), .second, .val (.long q1), .second, .val (.long q2), .second, .val (.long q3), .second, .val (.int p4), .unset, .unset, .unset, .unset, .unset, .unset, .unset, .unset, .unset, .unset, .unset, .unset, .unset, .unset, .unset, .unset, .unset, .unset, .unset] [(.int (p4 &&& (8 : Int32)))])) _
        refine XS.ifYes X0.here hx rfl (pc0 := 5) (pc' := 12) rfl (hb hby at_5) rfl ((if0 _ _).trans (teq hc5_1).1) (by decide) (by decide) ?_
        show Steps p.tables e below (s₁.setTop (mkF m 12 #[.val (.long q0), .second, .val (.long q1), .second, .val (.long q2), .second, .val (.long q3), .second, .val (.int p4), .unset, .unset, .unset, .unset, .unset, .unset, .unset, .unset, .unset, .unset, .unset, .unset, .unset, .unset, .unset, .unset, .unset, .unset, .unset] [])) _
        refine XS.iconst X0.here hx rfl (hb hby at_12) ?_
        exact kt
      refine own_arm hgo101 ?_
      exact own_armEnd X0 N0 e0 (by rw [hv2.trans (if_pos hc5_1)])
    · have hgo102 : ∀ t, Steps p.tables e below (s₁.setTop (mkF m 13 #[.val (.long q0), .second, .val (.long q1), .second, .val (.long q2), .second, .val (.long q3), .second, .val (.int p4), .unset, .unset, .unset, .unset, .unset, .unset, .unset, .unset, .unset, .unset, .unset, .unset, .unset, .unset, .unset, .unset, .unset, .unset, .unset] [(.int (1 : Int32))])) t → Steps p.tables e below (s₁.setTop (mkF m 5 #[.val (.long q0), .second, .val (.long q1), .second, .val (.long q2), .second, .val (.long q3), .second, .val (.int p4), .unset, .unset, .unset, .unset, .unset, .unset, .unset, .unset, .unset, .unset, .unset, .unset, .unset, .unset, .unset, .unset, .unset, .unset, .unset] [(.int (p4 &&& (8 : Int32)))])) t := by
        intro t kt
        show Steps p.tables e below (s₁.setTop (mkF m 5 #[.val (.long q0), .second, .val (.long q1), .second, .val (.long q2), .second, .val (.long q3), .second, .val (.int p4), .unset, .unset, .unset, .unset, .unset, .unset, .unset, .unset, .unset, .unset, .unset, .unset, .unset, .unset, .unset, .unset, .unset, .unset, .unset] [(.int (p4 &&& (8 : Int32)))])) _
        refine XS.ifNo X0.here hx rfl (hb hby at_5) rfl ((if0 _ _).trans (feq hc5_1).1) ?_
        show Steps p.tables e below (s₁.setTop (mkF m 8 #[.val (.long q0), .second, .val (.long q1), .second, .val (.long q2), .second, .val (.long q3), .second, .val (.int p4), .unset, .unset, .unset, .unset, .unset, .unset, .unset, .unset, .unset, .unset, .unset, .unset, .unset, .unset, .unset, .unset, .unset, .unset, .unset] [])) _
        refine XS.iconst X0.here hx rfl (hb hby at_8) ?_
        show Steps p.tables e below (s₁.setTop (mkF m 9 #[.val (.long q0), .second, .val (.long q1), .second, .val (.long q2), .second, .val (.long q3), .second, .val (.int p4), .unset, .unset, .unset, .unset, .unset, .unset, .unset, .unset, .unset, .unset, .unset, .unset, .unset, .unset, .unset, .unset, .unset, .unset, .unset] [(.int (1 : Int32))])) _
        refine XS.goto X0.here hx rfl (pc0 := 9) (pc' := 13) rfl (hb hby at_9) (by decide) (by decide) ?_
        exact kt
      refine own_arm hgo102 ?_
      exact own_armEnd X0 N0 e0 (by rw [hv2.trans (if_neg hc5_1)]))
  have hgo104 : ∀ t, Steps p.tables e below (T103.setTop (mkF m 17 #[.val (.long q0), .second, .val (.long q1), .second, .val (.long q2), .second, .val (.long q3), .second, .val (.int p4), .val (.int v2), .unset, .unset, .unset, .unset, .unset, .unset, .unset, .unset, .unset, .unset, .unset, .unset, .unset, .unset, .unset, .unset, .unset, .unset] [(.int v2)])) t → Steps p.tables e below (s₁.setTop (mkF m 0 #[.val (.long q0), .second, .val (.long q1), .second, .val (.long q2), .second, .val (.long q3), .second, .val (.int p4), .unset, .unset, .unset, .unset, .unset, .unset, .unset, .unset, .unset, .unset, .unset, .unset, .unset, .unset, .unset, .unset, .unset, .unset, .unset] [])) t := by
    intro t kt
    show Steps p.tables e below (s₁.setTop (mkF m 0 #[.val (.long q0), .second, .val (.long q1), .second, .val (.long q2), .second, .val (.long q3), .second, .val (.int p4), .unset, .unset, .unset, .unset, .unset, .unset, .unset, .unset, .unset, .unset, .unset, .unset, .unset, .unset, .unset, .unset, .unset, .unset, .unset] [])) _
    refine XS.iload X0.here hx rfl (hb hby at_0) rfl ?_
    show Steps p.tables e below (s₁.setTop (mkF m 2 #[.val (.long q0), .second, .val (.long q1), .second, .val (.long q2), .second, .val (.long q3), .second, .val (.int p4), .unset, .unset, .unset, .unset, .unset, .unset, .unset, .unset, .unset, .unset, .unset, .unset, .unset, .unset, .unset, .unset, .unset, .unset, .unset] [(.int p4)])) _
    refine XS.bipush X0.here hx rfl (hb hby at_2) ?_
    show Steps p.tables e below (s₁.setTop (mkF m 4 #[.val (.long q0), .second, .val (.long q1), .second, .val (.long q2), .second, .val (.long q3), .second, .val (.int p4), .unset, .unset, .unset, .unset, .unset, .unset, .unset, .unset, .unset, .unset, .unset, .unset, .unset, .unset, .unset, .unset, .unset, .unset, .unset] [(.int (8 : Int32)), (.int p4)])) _
    refine XS.iand X0.here hx rfl (hb hby at_4) rfl ?_
    show Steps p.tables e below (s₁.setTop (mkF m 5 #[.val (.long q0), .second, .val (.long q1), .second, .val (.long q2), .second, .val (.long q3), .second, .val (.int p4), .unset, .unset, .unset, .unset, .unset, .unset, .unset, .unset, .unset, .unset, .unset, .unset, .unset, .unset, .unset, .unset, .unset, .unset, .unset] [(.int (p4 &&& (8 : Int32)))])) _
    refine st103 _ ?_
    show Steps p.tables e below (T103.setTop (mkF m 13 #[.val (.long q0), .second, .val (.long q1), .second, .val (.long q2), .second, .val (.long q3), .second, .val (.int p4), .unset, .unset, .unset, .unset, .unset, .unset, .unset, .unset, .unset, .unset, .unset, .unset, .unset, .unset, .unset, .unset, .unset, .unset, .unset] [(.int v2)])) _
    refine XS.istore X103.here hx rfl (hb hby at_13) rfl (l' := #[.val (.long q0), .second, .val (.long q1), .second, .val (.long q2), .second, .val (.long q3), .second, .val (.int p4), .val (.int v2), .unset, .unset, .unset, .unset, .unset, .unset, .unset, .unset, .unset, .unset, .unset, .unset, .unset, .unset, .unset, .unset, .unset, .unset]) rfl ?_
    show Steps p.tables e below (T103.setTop (mkF m 15 #[.val (.long q0), .second, .val (.long q1), .second, .val (.long q2), .second, .val (.long q3), .second, .val (.int p4), .val (.int v2), .unset, .unset, .unset, .unset, .unset, .unset, .unset, .unset, .unset, .unset, .unset, .unset, .unset, .unset, .unset, .unset, .unset, .unset] [])) _
    refine XS.iload X103.here hx rfl (hb hby at_15) rfl ?_
    exact kt
  refine own_go hgo104 ?_
  by_cases hc17_3 : v2 = (0 : Int32)
  · obtain ⟨T105, h105, X105, e105, E105, A105, D105, -, st105⟩ := newO X103 hx hZ hown (hw _ (List.mem_of_getElem? (i := 0) rfl)) (hw _ (List.mem_of_getElem? (i := 1) rfl)) (hw _ (List.mem_of_getElem? (i := 2) rfl)) e103 (g := (mkF m 30 #[.val (.long q0), .second, .val (.long q1), .second, .val (.long q2), .second, .val (.long q3), .second, .val (.int p4), .val (.int v2), .unset, .unset, .unset, .unset, .unset, .unset, .unset, .unset, .unset, .unset, .unset, .unset, .unset, .unset, .unset, .unset, .unset, .unset] [])) rfl (hb hby at_30) (by decide) (by decide)
    obtain ⟨b105, g105⟩ : ∃ z, z = h0.size := ⟨_, rfl⟩
    rw [← g105] at A105 D105 st105
    have ne_ulc_b105 : ulc ≠ b105 := Nat.ne_of_lt (Nat.lt_of_lt_of_le A_lc.lt (Nat.le_of_eq g105.symm))
    have g_b105 : n0 ≤ b105 := Nat.le_trans Z0 (Nat.le_of_eq g105.symm)
    have sz_b105 : h0.size ≤ b105 := Nat.le_trans K0.1 (Nat.le_of_eq g105.symm)
    have F106 := S_lc.ext E105
    have F107 := A_lc.ext E105
    have Z108 : n0 ≤ h105.size := Nat.le_trans Z0 E105.1
    have K109 : Keep h0 h105 [] := K0.ext E105
    have F110 : Fld Z h105 b105 "com/example/millrace/millrace/queue/JournalClock" "latestMillis" "J" (.long (0 : Int64)) := D105 (Or.inl (hw _ (List.mem_of_getElem? (i := 11) rfl))) (ty := .long) (by decide)
    have F111 : Fld Z h105 b105 "com/example/millrace/millrace/queue/JournalClock" "millis" "J" (.long (0 : Int64)) := D105 (Or.inl (hw _ (List.mem_of_getElem? (i := 13) rfl))) (ty := .long) (by decide)
    have F112 : Fld Z h105 b105 "com/example/millrace/millrace/queue/JournalClock" "leadMillis" "J" (.long (0 : Int64)) := D105 (Or.inl (hw _ (List.mem_of_getElem? (i := 15) rfl))) (ty := .long) (by decide)
    obtain ⟨_, _, ⟨T113, L113, k113, n113⟩, -, X113, ⟨Lc113, hQ113, l113, y113, z113⟩, st113⟩ := X105.specialBack hx (y := (⟨"com/example/millrace/millrace/queue/JournalClock", "<init>", "(JJJ)V"⟩ : MethodName)) rfl hown (mvT hZ (hw _ (List.mem_of_getElem? (i := 3) rfl))) (mvT hZ (hw _ (List.mem_of_getElem? (i := 4) rfl))) (mvT hZ (hw _ (List.mem_of_getElem? (i := 5) rfl))) (by decide) (backOf (W := 1) (rm1 l Z a0 hw [] b105 q0 q1 q2 (0 : Int64) (0 : Int64) (0 : Int64) h105 n0 Z108 A105 F110 F111 F112 g_b105) hZ (hw _ (List.mem_of_getElem? (i := 5) rfl)) (hw _ (List.mem_of_getElem? (i := 2) rfl)) (by decide) (by decide)) (g := (mkF m 38 #[.val (.long q0), .second, .val (.long q1), .second, .val (.long q2), .second, .val (.long q3), .second, .val (.int p4), .val (.int v2), .unset, .unset, .unset, .unset, .unset, .unset, .unset, .unset, .unset, .unset, .unset, .unset, .unset, .unset, .unset, .unset, .unset, .unset] [(.long q2), (.long q1), (.long q0), (.ref b105), (.ref b105)])) rfl (by rw [hml]; rfl) (Steps.refl _) (a := b105) (argsL := [(.long q0), (.long q1), (.long q2)]) (rest := [(.ref b105)]) (lenOf pd5 rfl) rfl (by show 2 * 0 + _ ≤ _; exact Nat.le_of_eq rfl) (hb hby at_38) (fun _ _ => ⟨rfl, e105, (by decide : 1 + 0 ≤ _), (by decide : 3 + 0 ≤ _)⟩)
    dsimp only [Pt.U, Pt.locs, Pt.cells, Pt.slots] at X113 l113 y113 z113 st113 hQ113
    subst l113 y113 z113
    obtain ⟨rfl, N113q, K113q, F113_0, F113_1, F113_2, F113_3⟩ := hQ113
    have F114 := own_staKeep F106 K113q (allS (own_plainE A105) all0)
    have F115 := F107.keep K113q (ninS ne_ulc_b105 nin0)
    have F116 := A105.keep K113q
    have Z117 : n0 ≤ T113.heap.size := Nat.le_trans Z108 K113q.1
    have K118 : Keep h0 T113.heap [] := K109.trans K113q (allS (Or.inr sz_b105) all0)
    have N113 := Fr.app N103 N113q
    obtain ⟨v5, hv5⟩ : ∃ z : Int64, z = (if (p4 &&& (1 : Int32)) = (0 : Int32) then q0 else q3) := ⟨_, rfl⟩
    obtain ⟨T121, lc121, X121, N121, e121, st121⟩ := own_mrg (n0 := n0) (h := T113.heap) (g := (mkF m 88 #[.val (.long q0), .second, .val (.long q1), .second, .val (.long q2), .second, .val (.long q3), .second, .val (.int p4), .val (.int v2), .val (.ref b105), .val (.long q0), .second, .val (.long q1), .second, .val (.long q2), .second, .unset, .unset, .unset, .unset, .unset, .unset, .unset, .unset, .unset, .unset, .unset] [(.int (p4 &&& (1 : Int32)))])) (g' := (mkF m 98 #[.val (.long q0), .second, .val (.long q1), .second, .val (.long q2), .second, .val (.long q3), .second, .val (.int p4), .val (.int v2), .val (.ref b105), .val (.long q0), .second, .val (.long q1), .second, .val (.long q2), .second, .unset, .unset, .unset, .unset, .unset, .unset, .unset, .unset, .unset, .unset, .unset] [(.long v5)])) X113 (by
      by_cases hc88_4 : (p4 &&& (1 : Int32)) = (0 : Int32)
      · have hgo119 : ∀ t, Steps p.tables e below (T113.setTop (mkF m 98 #[.val (.long q0), .second, .val (.long q1), .second, .val (.long q2), .second, .val (.long q3), .second, .val (.int p4), .val (.int v2), .val (.ref b105), .val (.long q0), .second, .val (.long q1), .second, .val (.long q2), .second, .unset, .unset, .unset, .unset, .unset, .unset, .unset, .unset, .unset, .unset, .unset] [(.long q0)])) t → Steps p.tables e below (T113.setTop (mkF m 88 #[.val (.long q0), .second, .val (.long q1), .second, .val (.long q2), .second, .val (.long q3), .second, .val (.int p4), .val (.int v2), .val (.ref b105), .val (.long q0), .second, .val (.long q1), .second, .val (.long q2), .second, .unset, .unset, .unset, .unset, .unset, .unset, .unset, .unset, .unset, .unset, .unset] [(.int (p4 &&& (1 : Int32)))])) t := by
          intro t kt
          show Steps p.tables e below (T113.setTop (mkF m 88 #[.val (.long q0), .second, .val (.long q1), .second, .val (.long q2), .second, .val (.long q3), .second, .val (.int p4), .val (.int v2), .val (.ref b105), .val (.long q0), .second, .val (.long q1), .second, .val (.long q2), .second, .unset, .unset, .unset, .unset, .unset, .unset, .unset, .unset, .unset, .unset, .unset] [(.int (p4 &&& (1 : Int32)))])) _
          refine XS.ifYes X113.here hx rfl (pc0 := 88) (pc' := 96) rfl (hb hby at_88) rfl ((if0 _ _).trans (teq hc88_4).1) (by decide) (by decide) ?_
          show Steps p.tables e below (T113.setTop (mkF m 96 #[.val (.long q0), .second, .val (.long q1), .second, .val (.long q2), .second, .val (.long q3), .second, .val (.int p4), .val (.int v2), .val (.ref b105), .val (.long q0), .second, .val (.long q1), .second, .val (.long q2), .second, .unset, .unset, .unset, .unset, .unset, .unset, .unset, .unset, .unset, .unset, .unset] [])) _
          refine XS.lload X113.here hx rfl (hb hby at_96) rfl ?_
          exact kt
        refine own_arm hgo119 ?_
        exact own_armEnd X113 N113 (rfl : T113.heap = T113.heap) (by rw [hv5.trans (if_pos hc88_4)])
      · have hgo120 : ∀ t, Steps p.tables e below (T113.setTop (mkF m 98 #[.val (.long q0), .second, .val (.long q1), .second, .val (.long q2), .second, .val (.long q3), .second, .val (.int p4), .val (.int v2), .val (.ref b105), .val (.long q0), .second, .val (.long q1), .second, .val (.long q2), .second, .unset, .unset, .unset, .unset, .unset, .unset, .unset, .unset, .unset, .unset, .unset] [(.long q3)])) t → Steps p.tables e below (T113.setTop (mkF m 88 #[.val (.long q0), .second, .val (.long q1), .second, .val (.long q2), .second, .val (.long q3), .second, .val (.int p4), .val (.int v2), .val (.ref b105), .val (.long q0), .second, .val (.long q1), .second, .val (.long q2), .second, .unset, .unset, .unset, .unset, .unset, .unset, .unset, .unset, .unset, .unset, .unset] [(.int (p4 &&& (1 : Int32)))])) t := by
          intro t kt
          show Steps p.tables e below (T113.setTop (mkF m 88 #[.val (.long q0), .second, .val (.long q1), .second, .val (.long q2), .second, .val (.long q3), .second, .val (.int p4), .val (.int v2), .val (.ref b105), .val (.long q0), .second, .val (.long q1), .second, .val (.long q2), .second, .unset, .unset, .unset, .unset, .unset, .unset, .unset, .unset, .unset, .unset, .unset] [(.int (p4 &&& (1 : Int32)))])) _
          refine XS.ifNo X113.here hx rfl (hb hby at_88) rfl ((if0 _ _).trans (feq hc88_4).1) ?_
          show Steps p.tables e below (T113.setTop (mkF m 91 #[.val (.long q0), .second, .val (.long q1), .second, .val (.long q2), .second, .val (.long q3), .second, .val (.int p4), .val (.int v2), .val (.ref b105), .val (.long q0), .second, .val (.long q1), .second, .val (.long q2), .second, .unset, .unset, .unset, .unset, .unset, .unset, .unset, .unset, .unset, .unset, .unset] [])) _
          refine XS.lload X113.here hx rfl (hb hby at_91) rfl ?_
          show Steps p.tables e below (T113.setTop (mkF m 93 #[.val (.long q0), .second, .val (.long q1), .second, .val (.long q2), .second, .val (.long q3), .second, .val (.int p4), .val (.int v2), .val (.ref b105), .val (.long q0), .second, .val (.long q1), .second, .val (.long q2), .second, .unset, .unset, .unset, .unset, .unset, .unset, .unset, .unset, .unset, .unset, .unset] [(.long q3)])) _
          refine XS.goto X113.here hx rfl (pc0 := 93) (pc' := 98) rfl (hb hby at_93) (by decide) (by decide) ?_
          exact kt
        refine own_arm hgo120 ?_
        exact own_armEnd X113 N113 (rfl : T113.heap = T113.heap) (by rw [hv5.trans (if_neg hc88_4)]))
    obtain ⟨v7, hv7⟩ : ∃ z : Int64, z = (if (p4 &&& (2 : Int32)) = (0 : Int32) then q1 else q3) := ⟨_, rfl⟩
    obtain ⟨T124, lc124, X124, N124, e124, st124⟩ := own_mrg (n0 := n0) (h := T113.heap) (g := (mkF m 104 #[.val (.long q0), .second, .val (.long q1), .second, .val (.long q2), .second, .val (.long q3), .second, .val (.int p4), .val (.int v2), .val (.ref b105), .val (.long q0), .second, .val (.long q1), .second, .val (.long q2), .second, .val (.long v5), .second, .unset, .unset, .unset, .unset, .unset, .unset, .unset, .unset, .unset] [(.int (p4 &&& (2 : Int32)))])) (g' := (mkF m 114 #[.val (.long q0), .second, .val (.long q1), .second, .val (.long q2), .second, .val (.long q3), .second, .val (.int p4), .val (.int v2), .val (.ref b105), .val (.long q0), .second, .val (.long q1), .second, .val (.long q2), .second, .val (.long v5), .second, .unset, .unset, .unset, .unset, .unset, .unset, .unset, .unset, .unset] [(.long v7)])) X121 (by
      by_cases hc104_6 : (p4 &&& (2 : Int32)) = (0 : Int32)
      · have hgo122 : ∀ t, Steps p.tables e below (T121.setTop (mkF m 114 #[.val (.long q0), .second, .val (.long q1), .second, .val (.long q2), .second, .val (.long q3), .second, .val (.int p4), .val (.int v2), .val (.ref b105), .val (.long q0), .second, .val (.long q1), .second, .val (.long q2), .second, .val (.long v5), .second, .unset, .unset, .unset, .unset, .unset, .unset, .unset, .unset, .unset] [(.long q1)])) t → Steps p.tables e below (T121.setTop (mkF m 104 #[.val (.long q0), .second, .val (.long q1), .second, .val (.long q2), .second, .val (.long q3), .second, .val (.int p4), .val (.int v2), .val (.ref b105), .val (.long q0), .second, .val (.long q1), .second, .val (.long q2), .second, .val (.long v5), .second, .unset, .unset, .unset, .unset, .unset, .unset, .unset, .unset, .unset] [(.int (p4 &&& (2 : Int32)))])) t := by
          intro t kt
          show Steps p.tables e below (T121.setTop (mkF m 104 #[.val (.long q0), .second, .val (.long q1), .second, .val (.long q2), .second, .val (.long q3), .second, .val (.int p4), .val (.int v2), .val (.ref b105), .val (.long q0), .second, .val (.long q1), .second, .val (.long q2), .second, .val (.long v5), .second, .unset, .unset, .unset, .unset, .unset, .unset, .unset, .unset, .unset] [(.int (p4 &&& (2 : Int32)))])) _
          refine XS.ifYes X121.here hx rfl (pc0 := 104) (pc' := 112) rfl (hb hby at_104) rfl ((if0 _ _).trans (teq hc104_6).1) (by decide) (by decide) ?_
          show Steps p.tables e below (T121.setTop (mkF m 112 #[.val (.long q0), .second, .val (.long q1), .second, .val (.long q2), .second, .val (.long q3), .second, .val (.int p4), .val (.int v2), .val (.ref b105), .val (.long q0), .second, .val (.long q1), .second, .val (.long q2), .second, .val (.long v5), .second, .unset, .unset, .unset, .unset, .unset, .unset, .unset, .unset, .unset] [])) _
          refine XS.lload X121.here hx rfl (hb hby at_112) rfl ?_
          exact kt
        refine own_arm hgo122 ?_
        exact own_armEnd X121 N121 e121 (by rw [hv7.trans (if_pos hc104_6)])
      · have hgo123 : ∀ t, Steps p.tables e below (T121.setTop (mkF m 114 #[.val (.long q0), .second, .val (.long q1), .second, .val (.long q2), .second, .val (.long q3), .second, .val (.int p4), .val (.int v2), .val (.ref b105), .val (.long q0), .second, .val (.long q1), .second, .val (.long q2), .second, .val (.long v5), .second, .unset, .unset, .unset, .unset, .unset, .unset, .unset, .unset, .unset] [(.long q3)])) t → Steps p.tables e below (T121.setTop (mkF m 104 #[.val (.long q0), .second, .val (.long q1), .second, .val (.long q2), .second, .val (.long q3), .second, .val (.int p4), .val (.int v2), .val (.ref b105), .val (.long q0), .second, .val (.long q1), .second, .val (.long q2), .second, .val (.long v5), .second, .unset, .unset, .unset, .unset, .unset, .unset, .unset, .unset, .unset] [(.int (p4 &&& (2 : Int32)))])) t := by
          intro t kt
          show Steps p.tables e below (T121.setTop (mkF m 104 #[.val (.long q0), .second, .val (.long q1), .second, .val (.long q2), .second, .val (.long q3), .second, .val (.int p4), .val (.int v2), .val (.ref b105), .val (.long q0), .second, .val (.long q1), .second, .val (.long q2), .second, .val (.long v5), .second, .unset, .unset, .unset, .unset, .unset, .unset, .unset, .unset, .unset] [(.int (p4 &&& (2 : Int32)))])) _
          refine XS.ifNo X121.here hx rfl (hb hby at_104) rfl ((if0 _ _).trans (feq hc104_6).1) ?_
          show Steps p.tables e below (T121.setTop (mkF m 107 #[.val (.long q0), .second, .val (.long q1), .second, .val (.long q2), .second, .val (.long q3), .second, .val (.int p4), .val (.int v2), .val (.ref b105), .val (.long q0), .second, .val (.long q1), .second, .val (.long q2), .second, .val (.long v5), .second, .unset, .unset, .unset, .unset, .unset, .unset, .unset, .unset, .unset] [])) _
          refine XS.lload X121.here hx rfl (hb hby at_107) rfl ?_
          show Steps p.tables e below (T121.setTop (mkF m 109 #[.val (.long q0), .second, .val (.long q1), .second, .val (.long q2), .second, .val (.long q3), .second, .val (.int p4), .val (.int v2), .val (.ref b105), .val (.long q0), .second, .val (.long q1), .second, .val (.long q2), .second, .val (.long v5), .second, .unset, .unset, .unset, .unset, .unset, .unset, .unset, .unset, .unset] [(.long q3)])) _
          refine XS.goto X121.here hx rfl (pc0 := 109) (pc' := 114) rfl (hb hby at_109) (by decide) (by decide) ?_
          exact kt
        refine own_arm hgo123 ?_
        exact own_armEnd X121 N121 e121 (by rw [hv7.trans (if_neg hc104_6)]))
    obtain ⟨v9, hv9⟩ : ∃ z : Int64, z = (if (p4 &&& (4 : Int32)) = (0 : Int32) then q2 else q3) := ⟨_, rfl⟩
    obtain ⟨T127, lc127, X127, N127, e127, st127⟩ := own_mrg (n0 := n0) (h := T113.heap) (g := (mkF m 120 #[.val (.long q0), .second, .val (.long q1), .second, .val (.long q2), .second, .val (.long q3), .second, .val (.int p4), .val (.int v2), .val (.ref b105), .val (.long q0), .second, .val (.long q1), .second, .val (.long q2), .second, .val (.long v5), .second, .val (.long v7), .second, .unset, .unset, .unset, .unset, .unset, .unset, .unset] [(.int (p4 &&& (4 : Int32)))])) (g' := (mkF m 130 #[.val (.long q0), .second, .val (.long q1), .second, .val (.long q2), .second, .val (.long q3), .second, .val (.int p4), .val (.int v2), .val (.ref b105), .val (.long q0), .second, .val (.long q1), .second, .val (.long q2), .second, .val (.long v5), .second, .val (.long v7), .second, .unset, .unset, .unset, .unset, .unset, .unset, .unset] [(.long v9)])) X124 (by
      by_cases hc120_8 : (p4 &&& (4 : Int32)) = (0 : Int32)
      · have hgo125 : ∀ t, Steps p.tables e below (T124.setTop (mkF m 130 #[.val (.long q0), .second, .val (.long q1), .second, .val (.long q2), .second, .val (.long q3), .second, .val (.int p4), .val (.int v2), .val (.ref b105), .val (.long q0), .second, .val (.long q1), .second, .val (.long q2), .second, .val (.long v5), .second, .val (.long v7), .second, .unset, .unset, .unset, .unset, .unset, .unset, .unset] [(.long q2)])) t → Steps p.tables e below (T124.setTop (mkF m 120 #[.val (.long q0), .second, .val (.long q1), .second, .val (.long q2), .second, .val (.long q3), .second, .val (.int p4), .val (.int v2), .val (.ref b105), .val (.long q0), .second, .val (.long q1), .second, .val (.long q2), .second, .val (.long v5), .second, .val (.long v7), .second, .unset, .unset, .unset, .unset, .unset, .unset, .unset] [(.int (p4 &&& (4 : Int32)))])) t := by
          intro t kt
          show Steps p.tables e below (T124.setTop (mkF m 120 #[.val (.long q0), .second, .val (.long q1), .second, .val (.long q2), .second, .val (.long q3), .second, .val (.int p4), .val (.int v2), .val (.ref b105), .val (.long q0), .second, .val (.long q1), .second, .val (.long q2), .second, .val (.long v5), .second, .val (.long v7), .second, .unset, .unset, .unset, .unset, .unset, .unset, .unset] [(.int (p4 &&& (4 : Int32)))])) _
          refine XS.ifYes X124.here hx rfl (pc0 := 120) (pc' := 128) rfl (hb hby at_120) rfl ((if0 _ _).trans (teq hc120_8).1) (by decide) (by decide) ?_
          show Steps p.tables e below (T124.setTop (mkF m 128 #[.val (.long q0), .second, .val (.long q1), .second, .val (.long q2), .second, .val (.long q3), .second, .val (.int p4), .val (.int v2), .val (.ref b105), .val (.long q0), .second, .val (.long q1), .second, .val (.long q2), .second, .val (.long v5), .second, .val (.long v7), .second, .unset, .unset, .unset, .unset, .unset, .unset, .unset] [])) _
          refine XS.lload X124.here hx rfl (hb hby at_128) rfl ?_
          exact kt
        refine own_arm hgo125 ?_
        exact own_armEnd X124 N124 e124 (by rw [hv9.trans (if_pos hc120_8)])
      · have hgo126 : ∀ t, Steps p.tables e below (T124.setTop (mkF m 130 #[.val (.long q0), .second, .val (.long q1), .second, .val (.long q2), .second, .val (.long q3), .second, .val (.int p4), .val (.int v2), .val (.ref b105), .val (.long q0), .second, .val (.long q1), .second, .val (.long q2), .second, .val (.long v5), .second, .val (.long v7), .second, .unset, .unset, .unset, .unset, .unset, .unset, .unset] [(.long q3)])) t → Steps p.tables e below (T124.setTop (mkF m 120 #[.val (.long q0), .second, .val (.long q1), .second, .val (.long q2), .second, .val (.long q3), .second, .val (.int p4), .val (.int v2), .val (.ref b105), .val (.long q0), .second, .val (.long q1), .second, .val (.long q2), .second, .val (.long v5), .second, .val (.long v7), .second, .unset, .unset, .unset, .unset, .unset, .unset, .unset] [(.int (p4 &&& (4 : Int32)))])) t := by
          intro t kt
          show Steps p.tables e below (T124.setTop (mkF m 120 #[.val (.long q0), .second, .val (.long q1), .second, .val (.long q2), .second, .val (.long q3), .second, .val (.int p4), .val (.int v2), .val (.ref b105), .val (.long q0), .second, .val (.long q1), .second, .val (.long q2), .second, .val (.long v5), .second, .val (.long v7), .second, .unset, .unset, .unset, .unset, .unset, .unset, .unset] [(.int (p4 &&& (4 : Int32)))])) _
          refine XS.ifNo X124.here hx rfl (hb hby at_120) rfl ((if0 _ _).trans (feq hc120_8).1) ?_
          show Steps p.tables e below (T124.setTop (mkF m 123 #[.val (.long q0), .second, .val (.long q1), .second, .val (.long q2), .second, .val (.long q3), .second, .val (.int p4), .val (.int v2), .val (.ref b105), .val (.long q0), .second, .val (.long q1), .second, .val (.long q2), .second, .val (.long v5), .second, .val (.long v7), .second, .unset, .unset, .unset, .unset, .unset, .unset, .unset] [])) _
          refine XS.lload X124.here hx rfl (hb hby at_123) rfl ?_
          show Steps p.tables e below (T124.setTop (mkF m 125 #[.val (.long q0), .second, .val (.long q1), .second, .val (.long q2), .second, .val (.long q3), .second, .val (.int p4), .val (.int v2), .val (.ref b105), .val (.long q0), .second, .val (.long q1), .second, .val (.long q2), .second, .val (.long v5), .second, .val (.long v7), .second, .unset, .unset, .unset, .unset, .unset, .unset, .unset] [(.long q3)])) _
          refine XS.goto X124.here hx rfl (pc0 := 125) (pc' := 130) rfl (hb hby at_125) (by decide) (by decide) ?_
          exact kt
        refine own_arm hgo126 ?_
        exact own_armEnd X124 N124 e124 (by rw [hv9.trans (if_neg hc120_8)]))
    obtain ⟨T128, h128, X128, e128, E128, A128, D128, -, st128⟩ := newO X127 hx hZ hown (hw _ (List.mem_of_getElem? (i := 0) rfl)) (hw _ (List.mem_of_getElem? (i := 1) rfl)) (hw _ (List.mem_of_getElem? (i := 2) rfl)) e127 (g := (mkF m 132 #[.val (.long q0), .second, .val (.long q1), .second, .val (.long q2), .second, .val (.long q3), .second, .val (.int p4), .val (.int v2), .val (.ref b105), .val (.long q0), .second, .val (.long q1), .second, .val (.long q2), .second, .val (.long v5), .second, .val (.long v7), .second, .val (.long v9), .second, .unset, .unset, .unset, .unset, .unset] [])) rfl (hb hby at_132) (by decide) (by decide)
    obtain ⟨b128, g128⟩ : ∃ z, z = T113.heap.size := ⟨_, rfl⟩
    rw [← g128] at A128 D128 st128
    have ne_ulc_b128 : ulc ≠ b128 := Nat.ne_of_lt (Nat.lt_of_lt_of_le F115.lt (Nat.le_of_eq g128.symm))
    have ne_b105_b128 : b105 ≠ b128 := Nat.ne_of_lt (Nat.lt_of_lt_of_le F113_0.lt (Nat.le_of_eq g128.symm))
    have g_b128 : n0 ≤ b128 := Nat.le_trans Z117 (Nat.le_of_eq g128.symm)
    have sz_b128 : h0.size ≤ b128 := Nat.le_trans K118.1 (Nat.le_of_eq g128.symm)
    have F129 := F114.ext E128
    have F130 := F115.ext E128
    have F131 := F113_0.ext E128
    have F132 := F113_1.ext E128
    have F133 := F113_2.ext E128
    have F134 := F113_3.ext E128
    have Z135 : n0 ≤ h128.size := Nat.le_trans Z117 E128.1
    have K136 : Keep h0 h128 [] := K118.ext E128
    have F137 : Fld Z h128 b128 "com/example/millrace/millrace/queue/JournalClock" "latestMillis" "J" (.long (0 : Int64)) := D128 (Or.inl (hw _ (List.mem_of_getElem? (i := 11) rfl))) (ty := .long) (by decide)
    have F138 : Fld Z h128 b128 "com/example/millrace/millrace/queue/JournalClock" "millis" "J" (.long (0 : Int64)) := D128 (Or.inl (hw _ (List.mem_of_getElem? (i := 13) rfl))) (ty := .long) (by decide)
    have F139 : Fld Z h128 b128 "com/example/millrace/millrace/queue/JournalClock" "leadMillis" "J" (.long (0 : Int64)) := D128 (Or.inl (hw _ (List.mem_of_getElem? (i := 15) rfl))) (ty := .long) (by decide)
    obtain ⟨_, _, ⟨T140, L140, k140, n140⟩, -, X140, ⟨Lc140, hQ140, l140, y140, z140⟩, st140⟩ := X128.specialBack hx (y := (⟨"com/example/millrace/millrace/queue/JournalClock", "<init>", "(JJJ)V"⟩ : MethodName)) rfl hown (mvT hZ (hw _ (List.mem_of_getElem? (i := 3) rfl))) (mvT hZ (hw _ (List.mem_of_getElem? (i := 4) rfl))) (mvT hZ (hw _ (List.mem_of_getElem? (i := 5) rfl))) (by decide) (backOf (W := 1) (rm1 l Z a0 hw [] b128 v5 v7 v9 (0 : Int64) (0 : Int64) (0 : Int64) h128 n0 Z135 A128 F137 F138 F139 g_b128) hZ (hw _ (List.mem_of_getElem? (i := 5) rfl)) (hw _ (List.mem_of_getElem? (i := 2) rfl)) (by decide) (by decide)) (g := (mkF m 142 #[.val (.long q0), .second, .val (.long q1), .second, .val (.long q2), .second, .val (.long q3), .second, .val (.int p4), .val (.int v2), .val (.ref b105), .val (.long q0), .second, .val (.long q1), .second, .val (.long q2), .second, .val (.long v5), .second, .val (.long v7), .second, .val (.long v9), .second, .unset, .unset, .unset, .unset, .unset] [(.long v9), (.long v7), (.long v5), (.ref b128), (.ref b128)])) rfl (by rw [hml]; rfl) (Steps.refl _) (a := b128) (argsL := [(.long v5), (.long v7), (.long v9)]) (rest := [(.ref b128)]) (lenOf pd5 rfl) rfl (by show 2 * 0 + _ ≤ _; exact Nat.le_of_eq rfl) (hb hby at_142) (fun _ _ => ⟨rfl, e128, (by decide : 2 + 0 ≤ _), (by decide : 6 + 0 ≤ _)⟩)
    dsimp only [Pt.U, Pt.locs, Pt.cells, Pt.slots] at X140 l140 y140 z140 st140 hQ140
    subst l140 y140 z140
    obtain ⟨rfl, N140q, K140q, F140_0, F140_1, F140_2, F140_3⟩ := hQ140
    have F141 := own_staKeep F129 K140q (allS (own_plainE A128) all0)
    have F142 := F130.keep K140q (ninS ne_ulc_b128 nin0)
    have F143 := F131.keep K140q
    have F144 := F132.keep K140q (ninS ne_b105_b128 nin0)
    have F145 := F133.keep K140q (ninS ne_b105_b128 nin0)
    have F146 := F134.keep K140q (ninS ne_b105_b128 nin0)
    have F147 := A128.keep K140q
    have Z148 : n0 ≤ T140.heap.size := Nat.le_trans Z135 K140q.1
    have K149 : Keep h0 T140.heap [] := K136.trans K140q (allS (Or.inr sz_b128) all0)
    have N140 := Fr.app N127 N140q
    obtain ⟨v10, hv10⟩ : ∃ z : Int32, z = (((p4.toUInt32 >>> ((4 : Int32) &&& 31).toUInt32).toInt32) &&& (3 : Int32)) := ⟨_, rfl⟩
    have hgo151 : ∀ t, Steps p.tables e below (T140.setTop (mkF m 157 #[.val (.long q0), .second, .val (.long q1), .second, .val (.long q2), .second, .val (.long q3), .second, .val (.int p4), .val (.int v2), .val (.ref b105), .val (.long q0), .second, .val (.long q1), .second, .val (.long q2), .second, .val (.long v5), .second, .val (.long v7), .second, .val (.long v9), .second, .val (.ref b128), .val (.int v10), .unset, .unset, .unset] [(.int v10)])) t → Steps p.tables e below (T103.setTop (mkF m 17 #[.val (.long q0), .second, .val (.long q1), .second, .val (.long q2), .second, .val (.long q3), .second, .val (.int p4), .val (.int v2), .unset, .unset, .unset, .unset, .unset, .unset, .unset, .unset, .unset, .unset, .unset, .unset, .unset, .unset, .unset, .unset, .unset, .unset] [(.int v2)])) t := by
      intro t kt
      show Steps p.tables e below (T103.setTop (mkF m 17 #[.val (.long q0), .second, .val (.long q1), .second, .val (.long q2), .second, .val (.long q3), .second, .val (.int p4), .val (.int v2), .unset, .unset, .unset, .unset, .unset, .unset, .unset, .unset, .unset, .unset, .unset, .unset, .unset, .unset, .unset, .unset, .unset, .unset] [(.int v2)])) _
      refine XS.ifYes X103.here hx rfl (pc0 := 17) (pc' := 30) rfl (hb hby at_17) rfl ((if0 _ _).trans (teq hc17_3).1) (by decide) (by decide) ?_
      show Steps p.tables e below (T103.setTop (mkF m 30 #[.val (.long q0), .second, .val (.long q1), .second, .val (.long q2), .second, .val (.long q3), .second, .val (.int p4), .val (.int v2), .unset, .unset, .unset, .unset, .unset, .unset, .unset, .unset, .unset, .unset, .unset, .unset, .unset, .unset, .unset, .unset, .unset, .unset] [])) _
      refine st105 _ ?_
      show Steps p.tables e below (T105.setTop (mkF m 33 #[.val (.long q0), .second, .val (.long q1), .second, .val (.long q2), .second, .val (.long q3), .second, .val (.int p4), .val (.int v2), .unset, .unset, .unset, .unset, .unset, .unset, .unset, .unset, .unset, .unset, .unset, .unset, .unset, .unset, .unset, .unset, .unset, .unset] [(.ref b105)])) _
      refine XS.dup X105.here hx rfl (hb hby at_33) rfl rfl ?_
      show Steps p.tables e below (T105.setTop (mkF m 34 #[.val (.long q0), .second, .val (.long q1), .second, .val (.long q2), .second, .val (.long q3), .second, .val (.int p4), .val (.int v2), .unset, .unset, .unset, .unset, .unset, .unset, .unset, .unset, .unset, .unset, .unset, .unset, .unset, .unset, .unset, .unset, .unset, .unset] [(.ref b105), (.ref b105)])) _
      refine XS.lloadN X105.here hx rfl (hb hby at_34) rfl ?_
      show Steps p.tables e below (T105.setTop (mkF m 35 #[.val (.long q0), .second, .val (.long q1), .second, .val (.long q2), .second, .val (.long q3), .second, .val (.int p4), .val (.int v2), .unset, .unset, .unset, .unset, .unset, .unset, .unset, .unset, .unset, .unset, .unset, .unset, .unset, .unset, .unset, .unset, .unset, .unset] [(.long q0), (.ref b105), (.ref b105)])) _
      refine XS.lloadN X105.here hx rfl (hb hby at_35) rfl ?_
      show Steps p.tables e below (T105.setTop (mkF m 36 #[.val (.long q0), .second, .val (.long q1), .second, .val (.long q2), .second, .val (.long q3), .second, .val (.int p4), .val (.int v2), .unset, .unset, .unset, .unset, .unset, .unset, .unset, .unset, .unset, .unset, .unset, .unset, .unset, .unset, .unset, .unset, .unset, .unset] [(.long q1), (.long q0), (.ref b105), (.ref b105)])) _
      refine XS.lload X105.here hx rfl (hb hby at_36) rfl ?_
      show Steps p.tables e below (T105.setTop (mkF m 38 #[.val (.long q0), .second, .val (.long q1), .second, .val (.long q2), .second, .val (.long q3), .second, .val (.int p4), .val (.int v2), .unset, .unset, .unset, .unset, .unset, .unset, .unset, .unset, .unset, .unset, .unset, .unset, .unset, .unset, .unset, .unset, .unset, .unset] [(.long q2), (.long q1), (.long q0), (.ref b105), (.ref b105)])) _
      refine st113.trans ?_
      show Steps p.tables e below (T113.setTop (mkF m 41 #[.val (.long q0), .second, .val (.long q1), .second, .val (.long q2), .second, .val (.long q3), .second, .val (.int p4), .val (.int v2), .unset, .unset, .unset, .unset, .unset, .unset, .unset, .unset, .unset, .unset, .unset, .unset, .unset, .unset, .unset, .unset, .unset, .unset] [(.ref b105)])) _
      refine XS.astore X113.here hx rfl (hb hby at_41) rfl rfl (l' := #[.val (.long q0), .second, .val (.long q1), .second, .val (.long q2), .second, .val (.long q3), .second, .val (.int p4), .val (.int v2), .val (.ref b105), .unset, .unset, .unset, .unset, .unset, .unset, .unset, .unset, .unset, .unset, .unset, .unset, .unset, .unset, .unset, .unset, .unset]) rfl ?_
      show Steps p.tables e below (T113.setTop (mkF m 43 #[.val (.long q0), .second, .val (.long q1), .second, .val (.long q2), .second, .val (.long q3), .second, .val (.int p4), .val (.int v2), .val (.ref b105), .unset, .unset, .unset, .unset, .unset, .unset, .unset, .unset, .unset, .unset, .unset, .unset, .unset, .unset, .unset, .unset, .unset] [])) _
      refine XS.iload X113.here hx rfl (hb hby at_43) rfl ?_
      show Steps p.tables e below (T113.setTop (mkF m 45 #[.val (.long q0), .second, .val (.long q1), .second, .val (.long q2), .second, .val (.long q3), .second, .val (.int p4), .val (.int v2), .val (.ref b105), .unset, .unset, .unset, .unset, .unset, .unset, .unset, .unset, .unset, .unset, .unset, .unset, .unset, .unset, .unset, .unset, .unset] [(.int v2)])) _
      refine XS.ifYes X113.here hx rfl (pc0 := 45) (pc' := 54) rfl (hb hby at_45) rfl ((if0 _ _).trans (teq hc17_3).1) (by decide) (by decide) ?_
      show Steps p.tables e below (T113.setTop (mkF m 54 #[.val (.long q0), .second, .val (.long q1), .second, .val (.long q2), .second, .val (.long q3), .second, .val (.int p4), .val (.int v2), .val (.ref b105), .unset, .unset, .unset, .unset, .unset, .unset, .unset, .unset, .unset, .unset, .unset, .unset, .unset, .unset, .unset, .unset, .unset] [])) _
      refine XS.lloadN X113.here hx rfl (hb hby at_54) rfl ?_
      show Steps p.tables e below (T113.setTop (mkF m 55 #[.val (.long q0), .second, .val (.long q1), .second, .val (.long q2), .second, .val (.long q3), .second, .val (.int p4), .val (.int v2), .val (.ref b105), .unset, .unset, .unset, .unset, .unset, .unset, .unset, .unset, .unset, .unset, .unset, .unset, .unset, .unset, .unset, .unset, .unset] [(.long q0)])) _
      refine XS.lstore X113.here hx rfl (hb hby at_55) rfl (l' := #[.val (.long q0), .second, .val (.long q1), .second, .val (.long q2), .second, .val (.long q3), .second, .val (.int p4), .val (.int v2), .val (.ref b105), .val (.long q0), .second, .unset, .unset, .unset, .unset, .unset, .unset, .unset, .unset, .unset, .unset, .unset, .unset, .unset, .unset, .unset]) rfl ?_
      show Steps p.tables e below (T113.setTop (mkF m 57 #[.val (.long q0), .second, .val (.long q1), .second, .val (.long q2), .second, .val (.long q3), .second, .val (.int p4), .val (.int v2), .val (.ref b105), .val (.long q0), .second, .unset, .unset, .unset, .unset, .unset, .unset, .unset, .unset, .unset, .unset, .unset, .unset, .unset, .unset, .unset] [])) _
      refine XS.iload X113.here hx rfl (hb hby at_57) rfl ?_
      show Steps p.tables e below (T113.setTop (mkF m 59 #[.val (.long q0), .second, .val (.long q1), .second, .val (.long q2), .second, .val (.long q3), .second, .val (.int p4), .val (.int v2), .val (.ref b105), .val (.long q0), .second, .unset, .unset, .unset, .unset, .unset, .unset, .unset, .unset, .unset, .unset, .unset, .unset, .unset, .unset, .unset] [(.int v2)])) _
      refine XS.ifYes X113.here hx rfl (pc0 := 59) (pc' := 68) rfl (hb hby at_59) rfl ((if0 _ _).trans (teq hc17_3).1) (by decide) (by decide) ?_
      show Steps p.tables e below (T113.setTop (mkF m 68 #[.val (.long q0), .second, .val (.long q1), .second, .val (.long q2), .second, .val (.long q3), .second, .val (.int p4), .val (.int v2), .val (.ref b105), .val (.long q0), .second, .unset, .unset, .unset, .unset, .unset, .unset, .unset, .unset, .unset, .unset, .unset, .unset, .unset, .unset, .unset] [])) _
      refine XS.lloadN X113.here hx rfl (hb hby at_68) rfl ?_
      show Steps p.tables e below (T113.setTop (mkF m 69 #[.val (.long q0), .second, .val (.long q1), .second, .val (.long q2), .second, .val (.long q3), .second, .val (.int p4), .val (.int v2), .val (.ref b105), .val (.long q0), .second, .unset, .unset, .unset, .unset, .unset, .unset, .unset, .unset, .unset, .unset, .unset, .unset, .unset, .unset, .unset] [(.long q1)])) _
      refine XS.lstore X113.here hx rfl (hb hby at_69) rfl (l' := #[.val (.long q0), .second, .val (.long q1), .second, .val (.long q2), .second, .val (.long q3), .second, .val (.int p4), .val (.int v2), .val (.ref b105), .val (.long q0), .second, .val (.long q1), .second, .unset, .unset, .unset, .unset, .unset, .unset, .unset, .unset, .unset, .unset, .unset, .unset, .unset]) rfl ?_
      show Steps p.tables e below (T113.setTop (mkF m 71 #[.val (.long q0), .second, .val (.long q1), .second, .val (.long q2), .second, .val (.long q3), .second, .val (.int p4), .val (.int v2), .val (.ref b105), .val (.long q0), .second, .val (.long q1), .second, .unset, .unset, .unset, .unset, .unset, .unset, .unset, .unset, .unset, .unset, .unset, .unset, .unset] [])) _
      refine XS.iload X113.here hx rfl (hb hby at_71) rfl ?_
      show Steps p.tables e below (T113.setTop (mkF m 73 #[.val (.long q0), .second, .val (.long q1), .second, .val (.long q2), .second, .val (.long q3), .second, .val (.int p4), .val (.int v2), .val (.ref b105), .val (.long q0), .second, .val (.long q1), .second, .unset, .unset, .unset, .unset, .unset, .unset, .unset, .unset, .unset, .unset, .unset, .unset, .unset] [(.int v2)])) _
      refine XS.ifYes X113.here hx rfl (pc0 := 73) (pc' := 80) rfl (hb hby at_73) rfl ((if0 _ _).trans (teq hc17_3).1) (by decide) (by decide) ?_
      show Steps p.tables e below (T113.setTop (mkF m 80 #[.val (.long q0), .second, .val (.long q1), .second, .val (.long q2), .second, .val (.long q3), .second, .val (.int p4), .val (.int v2), .val (.ref b105), .val (.long q0), .second, .val (.long q1), .second, .unset, .unset, .unset, .unset, .unset, .unset, .unset, .unset, .unset, .unset, .unset, .unset, .unset] [])) _
      refine XS.lload X113.here hx rfl (hb hby at_80) rfl ?_
      show Steps p.tables e below (T113.setTop (mkF m 82 #[.val (.long q0), .second, .val (.long q1), .second, .val (.long q2), .second, .val (.long q3), .second, .val (.int p4), .val (.int v2), .val (.ref b105), .val (.long q0), .second, .val (.long q1), .second, .unset, .unset, .unset, .unset, .unset, .unset, .unset, .unset, .unset, .unset, .unset, .unset, .unset] [(.long q2)])) _
      refine XS.lstore X113.here hx rfl (hb hby at_82) rfl (l' := #[.val (.long q0), .second, .val (.long q1), .second, .val (.long q2), .second, .val (.long q3), .second, .val (.int p4), .val (.int v2), .val (.ref b105), .val (.long q0), .second, .val (.long q1), .second, .val (.long q2), .second, .unset, .unset, .unset, .unset, .unset, .unset, .unset, .unset, .unset, .unset, .unset]) rfl ?_
      show Steps p.tables e below (T113.setTop (mkF m 84 #[.val (.long q0), .second, .val (.long q1), .second, .val (.long q2), .second, .val (.long q3), .second, .val (.int p4), .val (.int v2), .val (.ref b105), .val (.long q0), .second, .val (.long q1), .second, .val (.long q2), .second, .unset, .unset, .unset, .unset, .unset, .unset, .unset, .unset, .unset, .unset, .unset] [])) _
      refine XS.iload X113.here hx rfl (hb hby at_84) rfl ?_
      show Steps p.tables e below (T113.setTop (mkF m 86 #[.val (.long q0), .second, .val (.long q1), .second, .val (.long q2), .second, .val (.long q3), .second, .val (.int p4), .val (.int v2), .val (.ref b105), .val (.long q0), .second, .val (.long q1), .second, .val (.long q2), .second, .unset, .unset, .unset, .unset, .unset, .unset, .unset, .unset, .unset, .unset, .unset] [(.int p4)])) _
      refine XS.iconst X113.here hx rfl (hb hby at_86) ?_
      show Steps p.tables e below (T113.setTop (mkF m 87 #[.val (.long q0), .second, .val (.long q1), .second, .val (.long q2), .second, .val (.long q3), .second, .val (.int p4), .val (.int v2), .val (.ref b105), .val (.long q0), .second, .val (.long q1), .second, .val (.long q2), .second, .unset, .unset, .unset, .unset, .unset, .unset, .unset, .unset, .unset, .unset, .unset] [(.int (1 : Int32)), (.int p4)])) _
      refine XS.iand X113.here hx rfl (hb hby at_87) rfl ?_
      show Steps p.tables e below (T113.setTop (mkF m 88 #[.val (.long q0), .second, .val (.long q1), .second, .val (.long q2), .second, .val (.long q3), .second, .val (.int p4), .val (.int v2), .val (.ref b105), .val (.long q0), .second, .val (.long q1), .second, .val (.long q2), .second, .unset, .unset, .unset, .unset, .unset, .unset, .unset, .unset, .unset, .unset, .unset] [(.int (p4 &&& (1 : Int32)))])) _
      refine st121 _ ?_
      show Steps p.tables e below (T121.setTop (mkF m 98 #[.val (.long q0), .second, .val (.long q1), .second, .val (.long q2), .second, .val (.long q3), .second, .val (.int p4), .val (.int v2), .val (.ref b105), .val (.long q0), .second, .val (.long q1), .second, .val (.long q2), .second, .unset, .unset, .unset, .unset, .unset, .unset, .unset, .unset, .unset, .unset, .unset] [(.long v5)])) _
      refine XS.lstore X121.here hx rfl (hb hby at_98) rfl (l' := #[.val (.long q0), .second, .val (.long q1), .second, .val (.long q2), .second, .val (.long q3), .second, .val (.int p4), .val (.int v2), .val (.ref b105), .val (.long q0), .second, .val (.long q1), .second, .val (.long q2), .second, .val (.long v5), .second, .unset, .unset, .unset, .unset, .unset, .unset, .unset, .unset, .unset]) rfl ?_
      show Steps p.tables e below (T121.setTop (mkF m 100 #[.val (.long q0), .second, .val (.long q1), .second, .val (.long q2), .second, .val (.long q3), .second, .val (.int p4), .val (.int v2), .val (.ref b105), .val (.long q0), .second, .val (.long q1), .second, .val (.long q2), .second, .val (.long v5), .second, .unset, .unset, .unset, .unset, .unset, .unset, .unset, .unset, .unset] [])) _
      refine XS.iload X121.here hx rfl (hb hby at_100) rfl ?_
      show Steps p.tables e below (T121.setTop (mkF m 102 #[.val (.long q0), .second, .val (.long q1), .second, .val (.long q2), .second, .val (.long q3), .second, .val (.int p4), .val (.int v2), .val (.ref b105), .val (.long q0), .second, .val (.long q1), .second, .val (.long q2), .second, .val (.long v5), .second, .unset, .unset, .unset, .unset, .unset, .unset, .unset, .unset, .unset] [(.int p4)])) _
      refine XS.iconst X121.here hx rfl (hb hby at_102) ?_
      show Steps p.tables e below (T121.setTop (mkF m 103 #[.val (.long q0), .second, .val (.long q1), .second, .val (.long q2), .second, .val (.long q3), .second, .val (.int p4), .val (.int v2), .val (.ref b105), .val (.long q0), .second, .val (.long q1), .second, .val (.long q2), .second, .val (.long v5), .second, .unset, .unset, .unset, .unset, .unset, .unset, .unset, .unset, .unset] [(.int (2 : Int32)), (.int p4)])) _
      refine XS.iand X121.here hx rfl (hb hby at_103) rfl ?_
      show Steps p.tables e below (T121.setTop (mkF m 104 #[.val (.long q0), .second, .val (.long q1), .second, .val (.long q2), .second, .val (.long q3), .second, .val (.int p4), .val (.int v2), .val (.ref b105), .val (.long q0), .second, .val (.long q1), .second, .val (.long q2), .second, .val (.long v5), .second, .unset, .unset, .unset, .unset, .unset, .unset, .unset, .unset, .unset] [(.int (p4 &&& (2 : Int32)))])) _
      refine st124 _ ?_
      show Steps p.tables e below (T124.setTop (mkF m 114 #[.val (.long q0), .second, .val (.long q1), .second, .val (.long q2), .second, .val (.long q3), .second, .val (.int p4), .val (.int v2), .val (.ref b105), .val (.long q0), .second, .val (.long q1), .second, .val (.long q2), .second, .val (.long v5), .second, .unset, .unset, .unset, .unset, .unset, .unset, .unset, .unset, .unset] [(.long v7)])) _
      refine XS.lstore X124.here hx rfl (hb hby at_114) rfl (l' := #[.val (.long q0), .second, .val (.long q1), .second, .val (.long q2), .second, .val (.long q3), .second, .val (.int p4), .val (.int v2), .val (.ref b105), .val (.long q0), .second, .val (.long q1), .second, .val (.long q2), .second, .val (.long v5), .second, .val (.long v7), .second, .unset, .unset, .unset, .unset, .unset, .unset, .unset]) rfl ?_
      show Steps p.tables e below (T124.setTop (mkF m 116 #[.val (.long q0), .second, .val (.long q1), .second, .val (.long q2), .second, .val (.long q3), .second, .val (.int p4), .val (.int v2), .val (.ref b105), .val (.long q0), .second, .val (.long q1), .second, .val (.long q2), .second, .val (.long v5), .second, .val (.long v7), .second, .unset, .unset, .unset, .unset, .unset, .unset, .unset] [])) _
      refine XS.iload X124.here hx rfl (hb hby at_116) rfl ?_
      show Steps p.tables e below (T124.setTop (mkF m 118 #[.val (.long q0), .second, .val (.long q1), .second, .val (.long q2), .second, .val (.long q3), .second, .val (.int p4), .val (.int v2), .val (.ref b105), .val (.long q0), .second, .val (.long q1), .second, .val (.long q2), .second, .val (.long v5), .second, .val (.long v7), .second, .unset, .unset, .unset, .unset, .unset, .unset, .unset] [(.int p4)])) _
      refine XS.iconst X124.here hx rfl (hb hby at_118) ?_
      show Steps p.tables e below (T124.setTop (mkF m 119 #[.val (.long q0), .second, .val (.long q1), .second, .val (.long q2), .second, .val (.long q3), .second, .val (.int p4), .val (.int v2), .val (.ref b105), .val (.long q0), .second, .val (.long q1), .second, .val (.long q2), .second, .val (.long v5), .second, .val (.long v7), .second, .unset, .unset, .unset, .unset, .unset, .unset, .unset] [(.int (4 : Int32)), (.int p4)])) _
      refine XS.iand X124.here hx rfl (hb hby at_119) rfl ?_
      show Steps p.tables e below (T124.setTop (mkF m 120 #[.val (.long q0), .second, .val (.long q1), .second, .val (.long q2), .second, .val (.long q3), .second, .val (.int p4), .val (.int v2), .val (.ref b105), .val (.long q0), .second, .val (.long q1), .second, .val (.long q2), .second, .val (.long v5), .second, .val (.long v7), .second, .unset, .unset, .unset, .unset, .unset, .unset, .unset] [(.int (p4 &&& (4 : Int32)))])) _
      refine st127 _ ?_
      show Steps p.tables e below (T127.setTop (mkF m 130 #[.val (.long q0), .second, .val (.long q1), .second, .val (.long q2), .second, .val (.long q3), .second, .val (.int p4), .val (.int v2), .val (.ref b105), .val (.long q0), .second, .val (.long q1), .second, .val (.long q2), .second, .val (.long v5), .second, .val (.long v7), .second, .unset, .unset, .unset, .unset, .unset, .unset, .unset] [(.long v9)])) _
      refine XS.lstore X127.here hx rfl (hb hby at_130) rfl (l' := #[.val (.long q0), .second, .val (.long q1), .second, .val (.long q2), .second, .val (.long q3), .second, .val (.int p4), .val (.int v2), .val (.ref b105), .val (.long q0), .second, .val (.long q1), .second, .val (.long q2), .second, .val (.long v5), .second, .val (.long v7), .second, .val (.long v9), .second, .unset, .unset, .unset, .unset, .unset]) rfl ?_
      show Steps p.tables e below (T127.setTop (mkF m 132 #[.val (.long q0), .second, .val (.long q1), .second, .val (.long q2), .second, .val (.long q3), .second, .val (.int p4), .val (.int v2), .val (.ref b105), .val (.long q0), .second, .val (.long q1), .second, .val (.long q2), .second, .val (.long v5), .second, .val (.long v7), .second, .val (.long v9), .second, .unset, .unset, .unset, .unset, .unset] [])) _
      refine st128 _ ?_
      show Steps p.tables e below (T128.setTop (mkF m 135 #[.val (.long q0), .second, .val (.long q1), .second, .val (.long q2), .second, .val (.long q3), .second, .val (.int p4), .val (.int v2), .val (.ref b105), .val (.long q0), .second, .val (.long q1), .second, .val (.long q2), .second, .val (.long v5), .second, .val (.long v7), .second, .val (.long v9), .second, .unset, .unset, .unset, .unset, .unset] [(.ref b128)])) _
      refine XS.dup X128.here hx rfl (hb hby at_135) rfl rfl ?_
      show Steps p.tables e below (T128.setTop (mkF m 136 #[.val (.long q0), .second, .val (.long q1), .second, .val (.long q2), .second, .val (.long q3), .second, .val (.int p4), .val (.int v2), .val (.ref b105), .val (.long q0), .second, .val (.long q1), .second, .val (.long q2), .second, .val (.long v5), .second, .val (.long v7), .second, .val (.long v9), .second, .unset, .unset, .unset, .unset, .unset] [(.ref b128), (.ref b128)])) _
      refine XS.lload X128.here hx rfl (hb hby at_136) rfl ?_
      show Steps p.tables e below (T128.setTop (mkF m 138 #[.val (.long q0), .second, .val (.long q1), .second, .val (.long q2), .second, .val (.long q3), .second, .val (.int p4), .val (.int v2), .val (.ref b105), .val (.long q0), .second, .val (.long q1), .second, .val (.long q2), .second, .val (.long v5), .second, .val (.long v7), .second, .val (.long v9), .second, .unset, .unset, .unset, .unset, .unset] [(.long v5), (.ref b128), (.ref b128)])) _
      refine XS.lload X128.here hx rfl (hb hby at_138) rfl ?_
      show Steps p.tables e below (T128.setTop (mkF m 140 #[.val (.long q0), .second, .val (.long q1), .second, .val (.long q2), .second, .val (.long q3), .second, .val (.int p4), .val (.int v2), .val (.ref b105), .val (.long q0), .second, .val (.long q1), .second, .val (.long q2), .second, .val (.long v5), .second, .val (.long v7), .second, .val (.long v9), .second, .unset, .unset, .unset, .unset, .unset] [(.long v7), (.long v5), (.ref b128), (.ref b128)])) _
      refine XS.lload X128.here hx rfl (hb hby at_140) rfl ?_
      show Steps p.tables e below (T128.setTop (mkF m 142 #[.val (.long q0), .second, .val (.long q1), .second, .val (.long q2), .second, .val (.long q3), .second, .val (.int p4), .val (.int v2), .val (.ref b105), .val (.long q0), .second, .val (.long q1), .second, .val (.long q2), .second, .val (.long v5), .second, .val (.long v7), .second, .val (.long v9), .second, .unset, .unset, .unset, .unset, .unset] [(.long v9), (.long v7), (.long v5), (.ref b128), (.ref b128)])) _
      refine st140.trans ?_
      show Steps p.tables e below (T140.setTop (mkF m 145 #[.val (.long q0), .second, .val (.long q1), .second, .val (.long q2), .second, .val (.long q3), .second, .val (.int p4), .val (.int v2), .val (.ref b105), .val (.long q0), .second, .val (.long q1), .second, .val (.long q2), .second, .val (.long v5), .second, .val (.long v7), .second, .val (.long v9), .second, .unset, .unset, .unset, .unset, .unset] [(.ref b128)])) _
      refine XS.astore X140.here hx rfl (hb hby at_145) rfl rfl (l' := #[.val (.long q0), .second, .val (.long q1), .second, .val (.long q2), .second, .val (.long q3), .second, .val (.int p4), .val (.int v2), .val (.ref b105), .val (.long q0), .second, .val (.long q1), .second, .val (.long q2), .second, .val (.long v5), .second, .val (.long v7), .second, .val (.long v9), .second, .val (.ref b128), .unset, .unset, .unset, .unset]) rfl ?_
      show Steps p.tables e below (T140.setTop (mkF m 147 #[.val (.long q0), .second, .val (.long q1), .second, .val (.long q2), .second, .val (.long q3), .second, .val (.int p4), .val (.int v2), .val (.ref b105), .val (.long q0), .second, .val (.long q1), .second, .val (.long q2), .second, .val (.long v5), .second, .val (.long v7), .second, .val (.long v9), .second, .val (.ref b128), .unset, .unset, .unset, .unset] [])) _
      refine XS.iload X140.here hx rfl (hb hby at_147) rfl ?_
      show Steps p.tables e below (T140.setTop (mkF m 149 #[.val (.long q0), .second, .val (.long q1), .second, .val (.long q2), .second, .val (.long q3), .second, .val (.int p4), .val (.int v2), .val (.ref b105), .val (.long q0), .second, .val (.long q1), .second, .val (.long q2), .second, .val (.long v5), .second, .val (.long v7), .second, .val (.long v9), .second, .val (.ref b128), .unset, .unset, .unset, .unset] [(.int p4)])) _
      refine XS.iconst X140.here hx rfl (hb hby at_149) ?_
      show Steps p.tables e below (T140.setTop (mkF m 150 #[.val (.long q0), .second, .val (.long q1), .second, .val (.long q2), .second, .val (.long q3), .second, .val (.int p4), .val (.int v2), .val (.ref b105), .val (.long q0), .second, .val (.long q1), .second, .val (.long q2), .second, .val (.long v5), .second, .val (.long v7), .second, .val (.long v9), .second, .val (.ref b128), .unset, .unset, .unset, .unset] [(.int (4 : Int32)), (.int p4)])) _
      refine XS.iushr X140.here hx rfl (hb hby at_150) rfl ?_
      show Steps p.tables e below (T140.setTop (mkF m 151 #[.val (.long q0), .second, .val (.long q1), .second, .val (.long q2), .second, .val (.long q3), .second, .val (.int p4), .val (.int v2), .val (.ref b105), .val (.long q0), .second, .val (.long q1), .second, .val (.long q2), .second, .val (.long v5), .second, .val (.long v7), .second, .val (.long v9), .second, .val (.ref b128), .unset, .unset, .unset, .unset] [(.int ((p4.toUInt32 >>> ((4 : Int32) &&& 31).toUInt32).toInt32))])) _
      refine XS.iconst X140.here hx rfl (hb hby at_151) ?_
      show Steps p.tables e below (T140.setTop (mkF m 152 #[.val (.long q0), .second, .val (.long q1), .second, .val (.long q2), .second, .val (.long q3), .second, .val (.int p4), .val (.int v2), .val (.ref b105), .val (.long q0), .second, .val (.long q1), .second, .val (.long q2), .second, .val (.long v5), .second, .val (.long v7), .second, .val (.long v9), .second, .val (.ref b128), .unset, .unset, .unset, .unset] [(.int (3 : Int32)), (.int ((p4.toUInt32 >>> ((4 : Int32) &&& 31).toUInt32).toInt32))])) _
      refine XS.iand X140.here hx rfl (hb hby at_152) rfl ?_
      show Steps p.tables e below (T140.setTop (mkF m 153 #[.val (.long q0), .second, .val (.long q1), .second, .val (.long q2), .second, .val (.long q3), .second, .val (.int p4), .val (.int v2), .val (.ref b105), .val (.long q0), .second, .val (.long q1), .second, .val (.long q2), .second, .val (.long v5), .second, .val (.long v7), .second, .val (.long v9), .second, .val (.ref b128), .unset, .unset, .unset, .unset] [(.int (((p4.toUInt32 >>> ((4 : Int32) &&& 31).toUInt32).toInt32) &&& (3 : Int32)))])) _
      rw [← hv10]
      show Steps p.tables e below (T140.setTop (mkF m 153 #[.val (.long q0), .second, .val (.long q1), .second, .val (.long q2), .second, .val (.long q3), .second, .val (.int p4), .val (.int v2), .val (.ref b105), .val (.long q0), .second, .val (.long q1), .second, .val (.long q2), .second, .val (.long v5), .second, .val (.long v7), .second, .val (.long v9), .second, .val (.ref b128), .unset, .unset, .unset, .unset] [(.int v10)])) _
      refine XS.istore X140.here hx rfl (hb hby at_153) rfl (l' := #[.val (.long q0), .second, .val (.long q1), .second, .val (.long q2), .second, .val (.long q3), .second, .val (.int p4), .val (.int v2), .val (.ref b105), .val (.long q0), .second, .val (.long q1), .second, .val (.long q2), .second, .val (.long v5), .second, .val (.long v7), .second, .val (.long v9), .second, .val (.ref b128), .val (.int v10), .unset, .unset, .unset]) rfl ?_
      show Steps p.tables e below (T140.setTop (mkF m 155 #[.val (.long q0), .second, .val (.long q1), .second, .val (.long q2), .second, .val (.long q3), .second, .val (.int p4), .val (.int v2), .val (.ref b105), .val (.long q0), .second, .val (.long q1), .second, .val (.long q2), .second, .val (.long v5), .second, .val (.long v7), .second, .val (.long v9), .second, .val (.ref b128), .val (.int v10), .unset, .unset, .unset] [])) _
      refine XS.iload X140.here hx rfl (hb hby at_155) rfl ?_
      exact kt
    refine own_go hgo151 ?_
    by_cases hc157_11 : v10 = (0 : Int32)
    · obtain ⟨cq152, kq152, q152a, q152b, q152c⟩ := isOf hZ (rfl : T140.heap = T140.heap) F143
      obtain ⟨_, _, ⟨T152, L152, k152, n152⟩, -, X152, ⟨Lc152, hQ152, l152, y152, z152⟩, st152⟩ := X140.virtualBack hx (y := (⟨"com/example/millrace/millrace/queue/JournalClock", "equals", "(Ljava/lang/Object;)Z"⟩ : MethodName)) (z := (⟨"com/example/millrace/millrace/queue/JournalClock", "equals", "(Ljava/lang/Object;)Z"⟩ : MethodName)) hown (mvT hZ (hw _ (List.mem_of_getElem? (i := 16) rfl))) (mvT hZ (hw _ (List.mem_of_getElem? (i := 17) rfl))) (notFace_of_selects (args := #[]) (mvT hZ (hw _ (List.mem_of_getElem? (i := 19) rfl)))) (mvT hZ (hw _ (List.mem_of_getElem? (i := 19) rfl))) (mvT hZ (hw _ (List.mem_of_getElem? (i := 18) rfl))) (by decide) (backOf (W := 0) (rm3n l Z a0 hw [] b105 (T140.heap) n0 Z148 ) hZ (hw _ (List.mem_of_getElem? (i := 20) rfl)) (hw _ (List.mem_of_getElem? (i := 2) rfl)) (by decide) (by decide)) q152a q152c (g := (mkF m 252 #[.val (.long q0), .second, .val (.long q1), .second, .val (.long q2), .second, .val (.long q3), .second, .val (.int p4), .val (.int v2), .val (.ref b105), .val (.long q0), .second, .val (.long q1), .second, .val (.long q2), .second, .val (.long v5), .second, .val (.long v7), .second, .val (.long v9), .second, .val (.ref b128), .val (.int v10), .val .null, .val (.int (0 : Int32)), .val (.int (1 : Int32))] [.null, (.ref b105)])) rfl (by rw [hml]; rfl) (Steps.refl _) (argsL := [.null]) (rest := []) (lenOf pd6 rfl) rfl (by show 2 * 0 + _ ≤ _; exact Nat.le_of_eq rfl) (hb hby at_252) (fun _ _ => ⟨rfl, (rfl : T140.heap = T140.heap), (by decide : 2 + 0 ≤ _), (by decide : 6 + 0 ≤ _)⟩)
      dsimp only [Pt.U, Pt.locs, Pt.cells, Pt.slots] at X152 l152 y152 z152 st152 hQ152
      subst l152 y152 z152
      obtain ⟨rfl, N152q, e152⟩ := hQ152
      have N152 := Fr.app N140 N152q
      obtain ⟨cq153, kq153, q153a, q153b, q153c⟩ := isOf hZ e152 F143
      obtain ⟨_, _, ⟨T153, L153, k153, n153⟩, -, X153, ⟨Lc153, hQ153, l153, y153, z153⟩, st153⟩ := X152.virtualBack hx (y := (⟨"com/example/millrace/millrace/queue/JournalClock", "equals", "(Ljava/lang/Object;)Z"⟩ : MethodName)) (z := (⟨"com/example/millrace/millrace/queue/JournalClock", "equals", "(Ljava/lang/Object;)Z"⟩ : MethodName)) hown (mvT hZ (hw _ (List.mem_of_getElem? (i := 16) rfl))) (mvT hZ (hw _ (List.mem_of_getElem? (i := 17) rfl))) (notFace_of_selects (args := #[]) (mvT hZ (hw _ (List.mem_of_getElem? (i := 19) rfl)))) (mvT hZ (hw _ (List.mem_of_getElem? (i := 19) rfl))) (mvT hZ (hw _ (List.mem_of_getElem? (i := 18) rfl))) (by decide) (backOf (W := 0) (rm3j l Z a0 hw [] b105 b105 q0 q0 q1 q1 q2 q2 (T140.heap) n0 Z148 F143 F144 F144 F145 F145 F146 F146) hZ (hw _ (List.mem_of_getElem? (i := 20) rfl)) (hw _ (List.mem_of_getElem? (i := 2) rfl)) (by decide) (by decide)) q153a q153c (g := (mkF m 269 #[.val (.long q0), .second, .val (.long q1), .second, .val (.long q2), .second, .val (.long q3), .second, .val (.int p4), .val (.int v2), .val (.ref b105), .val (.long q0), .second, .val (.long q1), .second, .val (.long q2), .second, .val (.long v5), .second, .val (.long v7), .second, .val (.long v9), .second, .val (.ref b128), .val (.int v10), .val .null, .val (.int (0 : Int32)), .val (.int (1 : Int32))] [(.ref b105), (.ref b105)])) rfl (by rw [hml]; rfl) (Steps.refl _) (argsL := [(.ref b105)]) (rest := []) (lenOf pd6 rfl) rfl (by show 2 * 0 + _ ≤ _; exact Nat.le_of_eq rfl) (hb hby at_269) (fun _ _ => ⟨rfl, e152, (by decide : 2 + 0 ≤ _), (by decide : 6 + 0 ≤ _)⟩)
      dsimp only [Pt.U, Pt.locs, Pt.cells, Pt.slots] at X153 l153 y153 z153 st153 hQ153
      subst l153 y153 z153
      obtain ⟨rfl, N153q, e153⟩ := hQ153
      have N153 := Fr.app N152 N153q
      obtain ⟨v14, hv14⟩ : ∃ z : Int32, z = (if (own_r3j q0 q0 q1 q1 q2 q2) = (0 : Int32) then (0 : Int32) else (1 : Int32)) := ⟨_, rfl⟩
      obtain ⟨T156, lc156, X156, N156, e156, st156⟩ := own_mrg (n0 := n0) (h := T140.heap) (g := (mkF m 272 #[.val (.long q0), .second, .val (.long q1), .second, .val (.long q2), .second, .val (.long q3), .second, .val (.int p4), .val (.int v2), .val (.ref b105), .val (.long q0), .second, .val (.long q1), .second, .val (.long q2), .second, .val (.long v5), .second, .val (.long v7), .second, .val (.long v9), .second, .val (.ref b128), .val (.int v10), .val .null, .val (.int (0 : Int32)), .val (.int (1 : Int32))] [(.int (own_r3j q0 q0 q1 q1 q2 q2))])) (g' := (mkF m 280 #[.val (.long q0), .second, .val (.long q1), .second, .val (.long q2), .second, .val (.long q3), .second, .val (.int p4), .val (.int v2), .val (.ref b105), .val (.long q0), .second, .val (.long q1), .second, .val (.long q2), .second, .val (.long v5), .second, .val (.long v7), .second, .val (.long v9), .second, .val (.ref b128), .val (.int v10), .val .null, .val (.int (0 : Int32)), .val (.int (1 : Int32))] [(.int v14)])) X153 (by
        by_cases hc272_13 : (own_r3j q0 q0 q1 q1 q2 q2) = (0 : Int32)
        · have hgo154 : ∀ t, Steps p.tables e below (T153.setTop (mkF m 280 #[.val (.long q0), .second, .val (.long q1), .second, .val (.long q2), .second, .val (.long q3), .second, .val (.int p4), .val (.int v2), .val (.ref b105), .val (.long q0), .second, .val (.long q1), .second, .val (.long q2), .second, .val (.long v5), .second, .val (.long v7), .second, .val (.long v9), .second, .val (.ref b128), .val (.int v10), .val .null, .val (.int (0 : Int32)), .val (.int (1 : Int32))] [(.int (0 : Int32))])) t → Steps p.tables e below (T153.setTop (mkF m 272 #[.val (.long q0), .second, .val (.long q1), .second, .val (.long q2), .second, .val (.long q3), .second, .val (.int p4), .val (.int v2), .val (.ref b105), .val (.long q0), .second, .val (.long q1), .second, .val (.long q2), .second, .val (.long v5), .second, .val (.long v7), .second, .val (.long v9), .second, .val (.ref b128), .val (.int v10), .val .null, .val (.int (0 : Int32)), .val (.int (1 : Int32))] [(.int (own_r3j q0 q0 q1 q1 q2 q2))])) t := by
            intro t kt
            show Steps p.tables e below (T153.setTop (mkF m 272 #[.val (.long q0), .second, .val (.long q1), .second, .val (.long q2), .second, .val (.long q3), .second, .val (.int p4), .val (.int v2), .val (.ref b105), .val (.long q0), .second, .val (.long q1), .second, .val (.long q2), .second, .val (.long v5), .second, .val (.long v7), .second, .val (.long v9), .second, .val (.ref b128), .val (.int v10), .val .null, .val (.int (0 : Int32)), .val (.int (1 : Int32))] [(.int (own_r3j q0 q0 q1 q1 q2 q2))])) _
            refine XS.ifYes X153.here hx rfl (pc0 := 272) (pc' := 279) rfl (hb hby at_272) rfl ((if0 _ _).trans (teq hc272_13).1) (by decide) (by decide) ?_
            show Steps p.tables e below (T153.setTop (mkF m 279 #[.val (.long q0), .second, .val (.long q1), .second, .val (.long q2), .second, .val (.long q3), .second, .val (.int p4), .val (.int v2), .val (.ref b105), .val (.long q0), .second, .val (.long q1), .second, .val (.long q2), .second, .val (.long v5), .second, .val (.long v7), .second, .val (.long v9), .second, .val (.ref b128), .val (.int v10), .val .null, .val (.int (0 : Int32)), .val (.int (1 : Int32))] [])) _
            refine XS.iconst X153.here hx rfl (hb hby at_279) ?_
            exact kt
          refine own_arm hgo154 ?_
          exact own_armEnd X153 N153 e153 (by rw [hv14.trans (if_pos hc272_13)])
        · have hgo155 : ∀ t, Steps p.tables e below (T153.setTop (mkF m 280 #[.val (.long q0), .second, .val (.long q1), .second, .val (.long q2), .second, .val (.long q3), .second, .val (.int p4), .val (.int v2), .val (.ref b105), .val (.long q0), .second, .val (.long q1), .second, .val (.long q2), .second, .val (.long v5), .second, .val (.long v7), .second, .val (.long v9), .second, .val (.ref b128), .val (.int v10), .val .null, .val (.int (0 : Int32)), .val (.int (1 : Int32))] [(.int (1 : Int32))])) t → Steps p.tables e below (T153.setTop (mkF m 272 #[.val (.long q0), .second, .val (.long q1), .second, .val (.long q2), .second, .val (.long q3), .second, .val (.int p4), .val (.int v2), .val (.ref b105), .val (.long q0), .second, .val (.long q1), .second, .val (.long q2), .second, .val (.long v5), .second, .val (.long v7), .second, .val (.long v9), .second, .val (.ref b128), .val (.int v10), .val .null, .val (.int (0 : Int32)), .val (.int (1 : Int32))] [(.int (own_r3j q0 q0 q1 q1 q2 q2))])) t := by
            intro t kt
            show Steps p.tables e below (T153.setTop (mkF m 272 #[.val (.long q0), .second, .val (.long q1), .second, .val (.long q2), .second, .val (.long q3), .second, .val (.int p4), .val (.int v2), .val (.ref b105), .val (.long q0), .second, .val (.long q1), .second, .val (.long q2), .second, .val (.long v5), .second, .val (.long v7), .second, .val (.long v9), .second, .val (.ref b128), .val (.int v10), .val .null, .val (.int (0 : Int32)), .val (.int (1 : Int32))] [(.int (own_r3j q0 q0 q1 q1 q2 q2))])) _
            refine XS.ifNo X153.here hx rfl (hb hby at_272) rfl ((if0 _ _).trans (feq hc272_13).1) ?_
            show Steps p.tables e below (T153.setTop (mkF m 275 #[.val (.long q0), .second, .val (.long q1), .second, .val (.long q2), .second, .val (.long q3), .second, .val (.int p4), .val (.int v2), .val (.ref b105), .val (.long q0), .second, .val (.long q1), .second, .val (.long q2), .second, .val (.long v5), .second, .val (.long v7), .second, .val (.long v9), .second, .val (.ref b128), .val (.int v10), .val .null, .val (.int (0 : Int32)), .val (.int (1 : Int32))] [])) _
            refine XS.iconst X153.here hx rfl (hb hby at_275) ?_
            show Steps p.tables e below (T153.setTop (mkF m 276 #[.val (.long q0), .second, .val (.long q1), .second, .val (.long q2), .second, .val (.long q3), .second, .val (.int p4), .val (.int v2), .val (.ref b105), .val (.long q0), .second, .val (.long q1), .second, .val (.long q2), .second, .val (.long v5), .second, .val (.long v7), .second, .val (.long v9), .second, .val (.ref b128), .val (.int v10), .val .null, .val (.int (0 : Int32)), .val (.int (1 : Int32))] [(.int (1 : Int32))])) _
            refine XS.goto X153.here hx rfl (pc0 := 276) (pc' := 280) rfl (hb hby at_276) (by decide) (by decide) ?_
            exact kt
          refine own_arm hgo155 ?_
          exact own_armEnd X153 N153 e153 (by rw [hv14.trans (if_neg hc272_13)]))
      have hgo157 : ∀ t, Steps p.tables e below (T156.setTop (mkF m 280 #[.val (.long q0), .second, .val (.long q1), .second, .val (.long q2), .second, .val (.long q3), .second, .val (.int p4), .val (.int v2), .val (.ref b105), .val (.long q0), .second, .val (.long q1), .second, .val (.long q2), .second, .val (.long v5), .second, .val (.long v7), .second, .val (.long v9), .second, .val (.ref b128), .val (.int v10), .val .null, .val (.int (0 : Int32)), .val (.int (1 : Int32))] [(.int v14)])) t → Steps p.tables e below (T140.setTop (mkF m 157 #[.val (.long q0), .second, .val (.long q1), .second, .val (.long q2), .second, .val (.long q3), .second, .val (.int p4), .val (.int v2), .val (.ref b105), .val (.long q0), .second, .val (.long q1), .second, .val (.long q2), .second, .val (.long v5), .second, .val (.long v7), .second, .val (.long v9), .second, .val (.ref b128), .val (.int v10), .unset, .unset, .unset] [(.int v10)])) t := by
        intro t kt
        show Steps p.tables e below (T140.setTop (mkF m 157 #[.val (.long q0), .second, .val (.long q1), .second, .val (.long q2), .second, .val (.long q3), .second, .val (.int p4), .val (.int v2), .val (.ref b105), .val (.long q0), .second, .val (.long q1), .second, .val (.long q2), .second, .val (.long v5), .second, .val (.long v7), .second, .val (.long v9), .second, .val (.ref b128), .val (.int v10), .unset, .unset, .unset] [(.int v10)])) _
        refine XS.ifNo X140.here hx rfl (hb hby at_157) rfl ((if0 _ _).trans (teq hc157_11).2) ?_
        show Steps p.tables e below (T140.setTop (mkF m 160 #[.val (.long q0), .second, .val (.long q1), .second, .val (.long q2), .second, .val (.long q3), .second, .val (.int p4), .val (.int v2), .val (.ref b105), .val (.long q0), .second, .val (.long q1), .second, .val (.long q2), .second, .val (.long v5), .second, .val (.long v7), .second, .val (.long v9), .second, .val (.ref b128), .val (.int v10), .unset, .unset, .unset] [])) _
        refine XS.aconstNull X140.here hx rfl (hb hby at_160) ?_
        show Steps p.tables e below (T140.setTop (mkF m 161 #[.val (.long q0), .second, .val (.long q1), .second, .val (.long q2), .second, .val (.long q3), .second, .val (.int p4), .val (.int v2), .val (.ref b105), .val (.long q0), .second, .val (.long q1), .second, .val (.long q2), .second, .val (.long v5), .second, .val (.long v7), .second, .val (.long v9), .second, .val (.ref b128), .val (.int v10), .unset, .unset, .unset] [.null])) _
        refine XS.astore X140.here hx rfl (hb hby at_161) rfl rfl (l' := #[.val (.long q0), .second, .val (.long q1), .second, .val (.long q2), .second, .val (.long q3), .second, .val (.int p4), .val (.int v2), .val (.ref b105), .val (.long q0), .second, .val (.long q1), .second, .val (.long q2), .second, .val (.long v5), .second, .val (.long v7), .second, .val (.long v9), .second, .val (.ref b128), .val (.int v10), .val .null, .unset, .unset]) rfl ?_
        show Steps p.tables e below (T140.setTop (mkF m 163 #[.val (.long q0), .second, .val (.long q1), .second, .val (.long q2), .second, .val (.long q3), .second, .val (.int p4), .val (.int v2), .val (.ref b105), .val (.long q0), .second, .val (.long q1), .second, .val (.long q2), .second, .val (.long v5), .second, .val (.long v7), .second, .val (.long v9), .second, .val (.ref b128), .val (.int v10), .val .null, .unset, .unset] [])) _
        refine XS.iconst X140.here hx rfl (hb hby at_163) ?_
        show Steps p.tables e below (T140.setTop (mkF m 164 #[.val (.long q0), .second, .val (.long q1), .second, .val (.long q2), .second, .val (.long q3), .second, .val (.int p4), .val (.int v2), .val (.ref b105), .val (.long q0), .second, .val (.long q1), .second, .val (.long q2), .second, .val (.long v5), .second, .val (.long v7), .second, .val (.long v9), .second, .val (.ref b128), .val (.int v10), .val .null, .unset, .unset] [(.int (0 : Int32))])) _
        refine XS.istore X140.here hx rfl (hb hby at_164) rfl (l' := #[.val (.long q0), .second, .val (.long q1), .second, .val (.long q2), .second, .val (.long q3), .second, .val (.int p4), .val (.int v2), .val (.ref b105), .val (.long q0), .second, .val (.long q1), .second, .val (.long q2), .second, .val (.long v5), .second, .val (.long v7), .second, .val (.long v9), .second, .val (.ref b128), .val (.int v10), .val .null, .val (.int (0 : Int32)), .unset]) rfl ?_
        show Steps p.tables e below (T140.setTop (mkF m 166 #[.val (.long q0), .second, .val (.long q1), .second, .val (.long q2), .second, .val (.long q3), .second, .val (.int p4), .val (.int v2), .val (.ref b105), .val (.long q0), .second, .val (.long q1), .second, .val (.long q2), .second, .val (.long v5), .second, .val (.long v7), .second, .val (.long v9), .second, .val (.ref b128), .val (.int v10), .val .null, .val (.int (0 : Int32)), .unset] [])) _
        refine XS.goto X140.here hx rfl (pc0 := 166) (pc' := 223) rfl (hb hby at_166) (by decide) (by decide) ?_
        show Steps p.tables e below (T140.setTop (mkF m 223 #[.val (.long q0), .second, .val (.long q1), .second, .val (.long q2), .second, .val (.long q3), .second, .val (.int p4), .val (.int v2), .val (.ref b105), .val (.long q0), .second, .val (.long q1), .second, .val (.long q2), .second, .val (.long v5), .second, .val (.long v7), .second, .val (.long v9), .second, .val (.ref b128), .val (.int v10), .val .null, .val (.int (0 : Int32)), .unset] [])) _
        refine XS.iload X140.here hx rfl (hb hby at_223) rfl ?_
        show Steps p.tables e below (T140.setTop (mkF m 225 #[.val (.long q0), .second, .val (.long q1), .second, .val (.long q2), .second, .val (.long q3), .second, .val (.int p4), .val (.int v2), .val (.ref b105), .val (.long q0), .second, .val (.long q1), .second, .val (.long q2), .second, .val (.long v5), .second, .val (.long v7), .second, .val (.long v9), .second, .val (.ref b128), .val (.int v10), .val .null, .val (.int (0 : Int32)), .unset] [(.int v10)])) _
        refine XS.iconst X140.here hx rfl (hb hby at_225) ?_
        show Steps p.tables e below (T140.setTop (mkF m 226 #[.val (.long q0), .second, .val (.long q1), .second, .val (.long q2), .second, .val (.long q3), .second, .val (.int p4), .val (.int v2), .val (.ref b105), .val (.long q0), .second, .val (.long q1), .second, .val (.long q2), .second, .val (.long v5), .second, .val (.long v7), .second, .val (.long v9), .second, .val (.ref b128), .val (.int v10), .val .null, .val (.int (0 : Int32)), .unset] [(.int (2 : Int32)), (.int v10)])) _
        refine XS.icmpYes X140.here hx rfl (pc0 := 226) (pc' := 241) rfl (hb hby at_226) rfl (tlt (by have y0 := hc157_11; simp only [Int32.lt_iff_toInt_lt, ← Int32.toInt_inj, Int32.reduceToInt] at y0 ⊢; omega : v10 < (2 : Int32))).1 (by decide) (by decide) ?_
        show Steps p.tables e below (T140.setTop (mkF m 241 #[.val (.long q0), .second, .val (.long q1), .second, .val (.long q2), .second, .val (.long q3), .second, .val (.int p4), .val (.int v2), .val (.ref b105), .val (.long q0), .second, .val (.long q1), .second, .val (.long q2), .second, .val (.long v5), .second, .val (.long v7), .second, .val (.long v9), .second, .val (.ref b128), .val (.int v10), .val .null, .val (.int (0 : Int32)), .unset] [])) _
        refine XS.iconst X140.here hx rfl (hb hby at_241) ?_
        show Steps p.tables e below (T140.setTop (mkF m 242 #[.val (.long q0), .second, .val (.long q1), .second, .val (.long q2), .second, .val (.long q3), .second, .val (.int p4), .val (.int v2), .val (.ref b105), .val (.long q0), .second, .val (.long q1), .second, .val (.long q2), .second, .val (.long v5), .second, .val (.long v7), .second, .val (.long v9), .second, .val (.ref b128), .val (.int v10), .val .null, .val (.int (0 : Int32)), .unset] [(.int (1 : Int32))])) _
        refine XS.goto X140.here hx rfl (pc0 := 242) (pc' := 246) rfl (hb hby at_242) (by decide) (by decide) ?_
        show Steps p.tables e below (T140.setTop (mkF m 246 #[.val (.long q0), .second, .val (.long q1), .second, .val (.long q2), .second, .val (.long q3), .second, .val (.int p4), .val (.int v2), .val (.ref b105), .val (.long q0), .second, .val (.long q1), .second, .val (.long q2), .second, .val (.long v5), .second, .val (.long v7), .second, .val (.long v9), .second, .val (.ref b128), .val (.int v10), .val .null, .val (.int (0 : Int32)), .unset] [(.int (1 : Int32))])) _
        refine XS.istore X140.here hx rfl (hb hby at_246) rfl (l' := #[.val (.long q0), .second, .val (.long q1), .second, .val (.long q2), .second, .val (.long q3), .second, .val (.int p4), .val (.int v2), .val (.ref b105), .val (.long q0), .second, .val (.long q1), .second, .val (.long q2), .second, .val (.long v5), .second, .val (.long v7), .second, .val (.long v9), .second, .val (.ref b128), .val (.int v10), .val .null, .val (.int (0 : Int32)), .val (.int (1 : Int32))]) rfl ?_
        show Steps p.tables e below (T140.setTop (mkF m 248 #[.val (.long q0), .second, .val (.long q1), .second, .val (.long q2), .second, .val (.long q3), .second, .val (.int p4), .val (.int v2), .val (.ref b105), .val (.long q0), .second, .val (.long q1), .second, .val (.long q2), .second, .val (.long v5), .second, .val (.long v7), .second, .val (.long v9), .second, .val (.ref b128), .val (.int v10), .val .null, .val (.int (0 : Int32)), .val (.int (1 : Int32))] [])) _
        refine XS.aload X140.here hx rfl (hb hby at_248) rfl rfl ?_
        show Steps p.tables e below (T140.setTop (mkF m 250 #[.val (.long q0), .second, .val (.long q1), .second, .val (.long q2), .second, .val (.long q3), .second, .val (.int p4), .val (.int v2), .val (.ref b105), .val (.long q0), .second, .val (.long q1), .second, .val (.long q2), .second, .val (.long v5), .second, .val (.long v7), .second, .val (.long v9), .second, .val (.ref b128), .val (.int v10), .val .null, .val (.int (0 : Int32)), .val (.int (1 : Int32))] [(.ref b105)])) _
        refine XS.aload X140.here hx rfl (hb hby at_250) rfl rfl ?_
        show Steps p.tables e below (T140.setTop (mkF m 252 #[.val (.long q0), .second, .val (.long q1), .second, .val (.long q2), .second, .val (.long q3), .second, .val (.int p4), .val (.int v2), .val (.ref b105), .val (.long q0), .second, .val (.long q1), .second, .val (.long q2), .second, .val (.long v5), .second, .val (.long v7), .second, .val (.long v9), .second, .val (.ref b128), .val (.int v10), .val .null, .val (.int (0 : Int32)), .val (.int (1 : Int32))] [.null, (.ref b105)])) _
        refine st152.trans ?_
        show Steps p.tables e below (T152.setTop (mkF m 255 #[.val (.long q0), .second, .val (.long q1), .second, .val (.long q2), .second, .val (.long q3), .second, .val (.int p4), .val (.int v2), .val (.ref b105), .val (.long q0), .second, .val (.long q1), .second, .val (.long q2), .second, .val (.long v5), .second, .val (.long v7), .second, .val (.long v9), .second, .val (.ref b128), .val (.int v10), .val .null, .val (.int (0 : Int32)), .val (.int (1 : Int32))] [(.int (0 : Int32))])) _
        refine XS.iload X152.here hx rfl (hb hby at_255) rfl ?_
        show Steps p.tables e below (T152.setTop (mkF m 257 #[.val (.long q0), .second, .val (.long q1), .second, .val (.long q2), .second, .val (.long q3), .second, .val (.int p4), .val (.int v2), .val (.ref b105), .val (.long q0), .second, .val (.long q1), .second, .val (.long q2), .second, .val (.long v5), .second, .val (.long v7), .second, .val (.long v9), .second, .val (.ref b128), .val (.int v10), .val .null, .val (.int (0 : Int32)), .val (.int (1 : Int32))] [(.int (0 : Int32)), (.int (0 : Int32))])) _
        refine XS.icmpNo X152.here hx rfl (hb hby at_257) rfl (teq (by decide : (0 : Int32) = (0 : Int32))).2 ?_
        show Steps p.tables e below (T152.setTop (mkF m 260 #[.val (.long q0), .second, .val (.long q1), .second, .val (.long q2), .second, .val (.long q3), .second, .val (.int p4), .val (.int v2), .val (.ref b105), .val (.long q0), .second, .val (.long q1), .second, .val (.long q2), .second, .val (.long v5), .second, .val (.long v7), .second, .val (.long v9), .second, .val (.ref b128), .val (.int v10), .val .null, .val (.int (0 : Int32)), .val (.int (1 : Int32))] [])) _
        refine XS.iload X152.here hx rfl (hb hby at_260) rfl ?_
        show Steps p.tables e below (T152.setTop (mkF m 262 #[.val (.long q0), .second, .val (.long q1), .second, .val (.long q2), .second, .val (.long q3), .second, .val (.int p4), .val (.int v2), .val (.ref b105), .val (.long q0), .second, .val (.long q1), .second, .val (.long q2), .second, .val (.long v5), .second, .val (.long v7), .second, .val (.long v9), .second, .val (.ref b128), .val (.int v10), .val .null, .val (.int (0 : Int32)), .val (.int (1 : Int32))] [(.int (1 : Int32))])) _
        refine XS.ifNo X152.here hx rfl (hb hby at_262) rfl ((if0 _ _).trans (feq (by decide : ¬ ((1 : Int32) = (0 : Int32)))).1) ?_
        show Steps p.tables e below (T152.setTop (mkF m 265 #[.val (.long q0), .second, .val (.long q1), .second, .val (.long q2), .second, .val (.long q3), .second, .val (.int p4), .val (.int v2), .val (.ref b105), .val (.long q0), .second, .val (.long q1), .second, .val (.long q2), .second, .val (.long v5), .second, .val (.long v7), .second, .val (.long v9), .second, .val (.ref b128), .val (.int v10), .val .null, .val (.int (0 : Int32)), .val (.int (1 : Int32))] [])) _
        refine XS.aload X152.here hx rfl (hb hby at_265) rfl rfl ?_
        show Steps p.tables e below (T152.setTop (mkF m 267 #[.val (.long q0), .second, .val (.long q1), .second, .val (.long q2), .second, .val (.long q3), .second, .val (.int p4), .val (.int v2), .val (.ref b105), .val (.long q0), .second, .val (.long q1), .second, .val (.long q2), .second, .val (.long v5), .second, .val (.long v7), .second, .val (.long v9), .second, .val (.ref b128), .val (.int v10), .val .null, .val (.int (0 : Int32)), .val (.int (1 : Int32))] [(.ref b105)])) _
        refine XS.aload X152.here hx rfl (hb hby at_267) rfl rfl ?_
        show Steps p.tables e below (T152.setTop (mkF m 269 #[.val (.long q0), .second, .val (.long q1), .second, .val (.long q2), .second, .val (.long q3), .second, .val (.int p4), .val (.int v2), .val (.ref b105), .val (.long q0), .second, .val (.long q1), .second, .val (.long q2), .second, .val (.long v5), .second, .val (.long v7), .second, .val (.long v9), .second, .val (.ref b128), .val (.int v10), .val .null, .val (.int (0 : Int32)), .val (.int (1 : Int32))] [(.ref b105), (.ref b105)])) _
        refine st153.trans ?_
        show Steps p.tables e below (T153.setTop (mkF m 272 #[.val (.long q0), .second, .val (.long q1), .second, .val (.long q2), .second, .val (.long q3), .second, .val (.int p4), .val (.int v2), .val (.ref b105), .val (.long q0), .second, .val (.long q1), .second, .val (.long q2), .second, .val (.long v5), .second, .val (.long v7), .second, .val (.long v9), .second, .val (.ref b128), .val (.int v10), .val .null, .val (.int (0 : Int32)), .val (.int (1 : Int32))] [(.int (own_r3j q0 q0 q1 q1 q2 q2))])) _
        refine st156 _ ?_
        exact kt
      refine own_go hgo157 ?_
      have hz158 : v14 = 1 := own_leaf0 (q0 := q0) (q1 := q1) (q2 := q2) (q3 := q3) (p4 := p4) (ulc := ulc) hv2 hv5 hv7 hv9 hv10 hv14 hc17_3 hc157_11
      exact own_retZ X156 hx Bd.returns Bd.notSynchronized (hb hby at_280) (by decide) (by decide) (Or.inr hz158) ⟨by rw [hz158], N156⟩
    · have hgo159 : ∀ t, Steps p.tables e below (T140.setTop (mkF m 172 #[.val (.long q0), .second, .val (.long q1), .second, .val (.long q2), .second, .val (.long q3), .second, .val (.int p4), .val (.int v2), .val (.ref b105), .val (.long q0), .second, .val (.long q1), .second, .val (.long q2), .second, .val (.long v5), .second, .val (.long v7), .second, .val (.long v9), .second, .val (.ref b128), .val (.int v10), .unset, .unset, .unset] [(.int (1 : Int32)), (.int v10)])) t → Steps p.tables e below (T140.setTop (mkF m 157 #[.val (.long q0), .second, .val (.long q1), .second, .val (.long q2), .second, .val (.long q3), .second, .val (.int p4), .val (.int v2), .val (.ref b105), .val (.long q0), .second, .val (.long q1), .second, .val (.long q2), .second, .val (.long v5), .second, .val (.long v7), .second, .val (.long v9), .second, .val (.ref b128), .val (.int v10), .unset, .unset, .unset] [(.int v10)])) t := by
        intro t kt
        show Steps p.tables e below (T140.setTop (mkF m 157 #[.val (.long q0), .second, .val (.long q1), .second, .val (.long q2), .second, .val (.long q3), .second, .val (.int p4), .val (.int v2), .val (.ref b105), .val (.long q0), .second, .val (.long q1), .second, .val (.long q2), .second, .val (.long v5), .second, .val (.long v7), .second, .val (.long v9), .second, .val (.ref b128), .val (.int v10), .unset, .unset, .unset] [(.int v10)])) _
        refine XS.ifYes X140.here hx rfl (pc0 := 157) (pc' := 169) rfl (hb hby at_157) rfl ((if0 _ _).trans (feq hc157_11).2) (by decide) (by decide) ?_
        show Steps p.tables e below (T140.setTop (mkF m 169 #[.val (.long q0), .second, .val (.long q1), .second, .val (.long q2), .second, .val (.long q3), .second, .val (.int p4), .val (.int v2), .val (.ref b105), .val (.long q0), .second, .val (.long q1), .second, .val (.long q2), .second, .val (.long v5), .second, .val (.long v7), .second, .val (.long v9), .second, .val (.ref b128), .val (.int v10), .unset, .unset, .unset] [])) _
        refine XS.iload X140.here hx rfl (hb hby at_169) rfl ?_
        show Steps p.tables e below (T140.setTop (mkF m 171 #[.val (.long q0), .second, .val (.long q1), .second, .val (.long q2), .second, .val (.long q3), .second, .val (.int p4), .val (.int v2), .val (.ref b105), .val (.long q0), .second, .val (.long q1), .second, .val (.long q2), .second, .val (.long v5), .second, .val (.long v7), .second, .val (.long v9), .second, .val (.ref b128), .val (.int v10), .unset, .unset, .unset] [(.int v10)])) _
        refine XS.iconst X140.here hx rfl (hb hby at_171) ?_
        exact kt
      refine own_go hgo159 ?_
      by_cases hc172_15 : v10 = (1 : Int32)
      · have hgo160 : ∀ t, Steps p.tables e below (T140.setTop (mkF m 177 #[.val (.long q0), .second, .val (.long q1), .second, .val (.long q2), .second, .val (.long q3), .second, .val (.int p4), .val (.int v2), .val (.ref b105), .val (.long q0), .second, .val (.long q1), .second, .val (.long q2), .second, .val (.long v5), .second, .val (.long v7), .second, .val (.long v9), .second, .val (.ref b128), .val (.int v10), .unset, .unset, .unset] [(.long q0)])) t → Steps p.tables e below (T140.setTop (mkF m 172 #[.val (.long q0), .second, .val (.long q1), .second, .val (.long q2), .second, .val (.long q3), .second, .val (.int p4), .val (.int v2), .val (.ref b105), .val (.long q0), .second, .val (.long q1), .second, .val (.long q2), .second, .val (.long v5), .second, .val (.long v7), .second, .val (.long v9), .second, .val (.ref b128), .val (.int v10), .unset, .unset, .unset] [(.int (1 : Int32)), (.int v10)])) t := by
          intro t kt
          show Steps p.tables e below (T140.setTop (mkF m 172 #[.val (.long q0), .second, .val (.long q1), .second, .val (.long q2), .second, .val (.long q3), .second, .val (.int p4), .val (.int v2), .val (.ref b105), .val (.long q0), .second, .val (.long q1), .second, .val (.long q2), .second, .val (.long v5), .second, .val (.long v7), .second, .val (.long v9), .second, .val (.ref b128), .val (.int v10), .unset, .unset, .unset] [(.int (1 : Int32)), (.int v10)])) _
          refine XS.icmpNo X140.here hx rfl (hb hby at_172) rfl (teq hc172_15).2 ?_
          show Steps p.tables e below (T140.setTop (mkF m 175 #[.val (.long q0), .second, .val (.long q1), .second, .val (.long q2), .second, .val (.long q3), .second, .val (.int p4), .val (.int v2), .val (.ref b105), .val (.long q0), .second, .val (.long q1), .second, .val (.long q2), .second, .val (.long v5), .second, .val (.long v7), .second, .val (.long v9), .second, .val (.ref b128), .val (.int v10), .unset, .unset, .unset] [])) _
          refine XS.lload X140.here hx rfl (hb hby at_175) rfl ?_
          exact kt
        refine own_go hgo160 ?_
        by_cases hs177_16 : q0 < (-128 : Int64)
        · obtain ⟨_, _, ⟨T161, L161, k161, n161⟩, -, X161, ⟨Lc161, hQ161, l161, y161, z161⟩, st161⟩ := Jvm.LawKit.callS X140 hx (y := (⟨"java/lang/Long", "valueOf", "(J)Ljava/lang/Long;"⟩ : MethodName)) hown (mvT hZ (hw _ (List.mem_of_getElem? (i := 27) rfl))) (mvT hZ (hw _ (List.mem_of_getElem? (i := 28) rfl))) (mvT hZ (hw _ (List.mem_of_getElem? (i := 29) rfl))) (mvT hZ (hw _ (List.mem_of_getElem? (i := 30) rfl))) (by decide) (backOf (W := 0) (rm5a l Z a0 hw [] q0 (T140.heap) n0 Z148 (by first | assumption | decide : q0 < (-128 : Int64))) hZ (hw _ (List.mem_of_getElem? (i := 30) rfl)) (hw _ (List.mem_of_getElem? (i := 29) rfl)) (by decide) (by decide)) (g := (mkF m 177 #[.val (.long q0), .second, .val (.long q1), .second, .val (.long q2), .second, .val (.long q3), .second, .val (.int p4), .val (.int v2), .val (.ref b105), .val (.long q0), .second, .val (.long q1), .second, .val (.long q2), .second, .val (.long v5), .second, .val (.long v7), .second, .val (.long v9), .second, .val (.ref b128), .val (.int v10), .unset, .unset, .unset] [(.long q0)])) rfl (by rw [hml]; rfl) (argsL := [(.long q0)]) (rest := []) (lenOf pd7 rfl) rfl (by show 2 * 0 + _ ≤ _; exact Nat.le_of_eq rfl) (hb hby at_177) (fun _ _ => ⟨rfl, (rfl : T140.heap = T140.heap), (by decide : 2 + 1 ≤ _), (by decide : 6 + 1 ≤ _)⟩)
          dsimp only [Pt.U, Pt.locs, Pt.cells, Pt.slots] at X161 l161 y161 z161 st161 hQ161
          subst l161 y161 z161
          obtain ⟨b161_0, rfl, N161q, K161q, F161_0, F161_1, F161_2⟩ := hQ161
          have F162 := own_staKeep F141 K161q all0
          have F163 := F142.keep K161q nin0
          have F164 := F143.keep K161q
          have F165 := F144.keep K161q nin0
          have F166 := F145.keep K161q nin0
          have F167 := F146.keep K161q nin0
          have F168 := F140_0.keep K161q
          have F169 := F140_1.keep K161q nin0
          have F170 := F140_2.keep K161q nin0
          have F171 := F140_3.keep K161q nin0
          have Z172 : n0 ≤ T161.heap.size := Nat.le_trans Z148 K161q.1
          have K173 : Keep h0 T161.heap [] := K149.trans K161q all0
          have g_b161_0 : n0 ≤ b161_0 := Nat.le_trans Z148 F161_0
          have sz_b161_0 : h0.size ≤ b161_0 := Nat.le_trans K149.1 F161_0
          have ne_ulc_b161_0 : ulc ≠ b161_0 := Nat.ne_of_lt (Nat.lt_of_lt_of_le F142.lt F161_0)
          have ne_b105_b161_0 : b105 ≠ b161_0 := Nat.ne_of_lt (Nat.lt_of_lt_of_le F143.lt F161_0)
          have ne_b128_b161_0 : b128 ≠ b161_0 := Nat.ne_of_lt (Nat.lt_of_lt_of_le F140_0.lt F161_0)
          have N161 := Fr.app N140 N161q
          obtain ⟨cq174, kq174, q174a, q174b, q174c⟩ := isOf hZ (rfl : T161.heap = T161.heap) F164
          obtain ⟨_, _, ⟨T174, L174, k174, n174⟩, -, X174, ⟨Lc174, hQ174, l174, y174, z174⟩, st174⟩ := X161.virtualBack hx (y := (⟨"com/example/millrace/millrace/queue/JournalClock", "equals", "(Ljava/lang/Object;)Z"⟩ : MethodName)) (z := (⟨"com/example/millrace/millrace/queue/JournalClock", "equals", "(Ljava/lang/Object;)Z"⟩ : MethodName)) hown (mvT hZ (hw _ (List.mem_of_getElem? (i := 16) rfl))) (mvT hZ (hw _ (List.mem_of_getElem? (i := 17) rfl))) (notFace_of_selects (args := #[]) (mvT hZ (hw _ (List.mem_of_getElem? (i := 19) rfl)))) (mvT hZ (hw _ (List.mem_of_getElem? (i := 19) rfl))) (mvT hZ (hw _ (List.mem_of_getElem? (i := 18) rfl))) (by decide) (backOf (W := 0) (rm3L l Z a0 hw [] b105 b161_0 (T161.heap) n0 Z172 F161_1) hZ (hw _ (List.mem_of_getElem? (i := 20) rfl)) (hw _ (List.mem_of_getElem? (i := 2) rfl)) (by decide) (by decide)) q174a q174c (g := (mkF m 252 #[.val (.long q0), .second, .val (.long q1), .second, .val (.long q2), .second, .val (.long q3), .second, .val (.int p4), .val (.int v2), .val (.ref b105), .val (.long q0), .second, .val (.long q1), .second, .val (.long q2), .second, .val (.long v5), .second, .val (.long v7), .second, .val (.long v9), .second, .val (.ref b128), .val (.int v10), .val (.ref b161_0), .val (.int (0 : Int32)), .val (.int (1 : Int32))] [(.ref b161_0), (.ref b105)])) rfl (by rw [hml]; rfl) (Steps.refl _) (argsL := [(.ref b161_0)]) (rest := []) (lenOf pd6 rfl) rfl (by show 2 * 0 + _ ≤ _; exact Nat.le_of_eq rfl) (hb hby at_252) (fun _ _ => ⟨rfl, (rfl : T161.heap = T161.heap), (by decide : 3 + 0 ≤ _), (by decide : 7 + 0 ≤ _)⟩)
          dsimp only [Pt.U, Pt.locs, Pt.cells, Pt.slots] at X174 l174 y174 z174 st174 hQ174
          subst l174 y174 z174
          obtain ⟨rfl, N174q, e174⟩ := hQ174
          have N174 := Fr.app N161 N174q
          obtain ⟨cq175, kq175, q175a, q175b, q175c⟩ := isOf hZ e174 F164
          obtain ⟨_, _, ⟨T175, L175, k175, n175⟩, -, X175, ⟨Lc175, hQ175, l175, y175, z175⟩, st175⟩ := X174.virtualBack hx (y := (⟨"com/example/millrace/millrace/queue/JournalClock", "equals", "(Ljava/lang/Object;)Z"⟩ : MethodName)) (z := (⟨"com/example/millrace/millrace/queue/JournalClock", "equals", "(Ljava/lang/Object;)Z"⟩ : MethodName)) hown (mvT hZ (hw _ (List.mem_of_getElem? (i := 16) rfl))) (mvT hZ (hw _ (List.mem_of_getElem? (i := 17) rfl))) (notFace_of_selects (args := #[]) (mvT hZ (hw _ (List.mem_of_getElem? (i := 19) rfl)))) (mvT hZ (hw _ (List.mem_of_getElem? (i := 19) rfl))) (mvT hZ (hw _ (List.mem_of_getElem? (i := 18) rfl))) (by decide) (backOf (W := 0) (rm3j l Z a0 hw [] b105 b105 q0 q0 q1 q1 q2 q2 (T161.heap) n0 Z172 F164 F165 F165 F166 F166 F167 F167) hZ (hw _ (List.mem_of_getElem? (i := 20) rfl)) (hw _ (List.mem_of_getElem? (i := 2) rfl)) (by decide) (by decide)) q175a q175c (g := (mkF m 269 #[.val (.long q0), .second, .val (.long q1), .second, .val (.long q2), .second, .val (.long q3), .second, .val (.int p4), .val (.int v2), .val (.ref b105), .val (.long q0), .second, .val (.long q1), .second, .val (.long q2), .second, .val (.long v5), .second, .val (.long v7), .second, .val (.long v9), .second, .val (.ref b128), .val (.int v10), .val (.ref b161_0), .val (.int (0 : Int32)), .val (.int (1 : Int32))] [(.ref b105), (.ref b105)])) rfl (by rw [hml]; rfl) (Steps.refl _) (argsL := [(.ref b105)]) (rest := []) (lenOf pd6 rfl) rfl (by show 2 * 0 + _ ≤ _; exact Nat.le_of_eq rfl) (hb hby at_269) (fun _ _ => ⟨rfl, e174, (by decide : 3 + 0 ≤ _), (by decide : 7 + 0 ≤ _)⟩)
          dsimp only [Pt.U, Pt.locs, Pt.cells, Pt.slots] at X175 l175 y175 z175 st175 hQ175
          subst l175 y175 z175
          obtain ⟨rfl, N175q, e175⟩ := hQ175
          have N175 := Fr.app N174 N175q
          obtain ⟨v18, hv18⟩ : ∃ z : Int32, z = (if (own_r3j q0 q0 q1 q1 q2 q2) = (0 : Int32) then (0 : Int32) else (1 : Int32)) := ⟨_, rfl⟩
          obtain ⟨T178, lc178, X178, N178, e178, st178⟩ := own_mrg (n0 := n0) (h := T161.heap) (g := (mkF m 272 #[.val (.long q0), .second, .val (.long q1), .second, .val (.long q2), .second, .val (.long q3), .second, .val (.int p4), .val (.int v2), .val (.ref b105), .val (.long q0), .second, .val (.long q1), .second, .val (.long q2), .second, .val (.long v5), .second, .val (.long v7), .second, .val (.long v9), .second, .val (.ref b128), .val (.int v10), .val (.ref b161_0), .val (.int (0 : Int32)), .val (.int (1 : Int32))] [(.int (own_r3j q0 q0 q1 q1 q2 q2))])) (g' := (mkF m 280 #[.val (.long q0), .second, .val (.long q1), .second, .val (.long q2), .second, .val (.long q3), .second, .val (.int p4), .val (.int v2), .val (.ref b105), .val (.long q0), .second, .val (.long q1), .second, .val (.long q2), .second, .val (.long v5), .second, .val (.long v7), .second, .val (.long v9), .second, .val (.ref b128), .val (.int v10), .val (.ref b161_0), .val (.int (0 : Int32)), .val (.int (1 : Int32))] [(.int v18)])) X175 (by
            by_cases hc272_17 : (own_r3j q0 q0 q1 q1 q2 q2) = (0 : Int32)
            · have hgo176 : ∀ t, Steps p.tables e below (T175.setTop (mkF m 280 #[.val (.long q0), .second, .val (.long q1), .second, .val (.long q2), .second, .val (.long q3), .second, .val (.int p4), .val (.int v2), .val (.ref b105), .val (.long q0), .second, .val (.long q1), .second, .val (.long q2), .second, .val (.long v5), .second, .val (.long v7), .second, .val (.long v9), .second, .val (.ref b128), .val (.int v10), .val (.ref b161_0), .val (.int (0 : Int32)), .val (.int (1 : Int32))] [(.int (0 : Int32))])) t → Steps p.tables e below (T175.setTop (mkF m 272 #[.val (.long q0), .second, .val (.long q1), .second, .val (.long q2), .second, .val (.long q3), .second, .val (.int p4), .val (.int v2), .val (.ref b105), .val (.long q0), .second, .val (.long q1), .second, .val (.long q2), .second, .val (.long v5), .second, .val (.long v7), .second, .val (.long v9), .second, .val (.ref b128), .val (.int v10), .val (.ref b161_0), .val (.int (0 : Int32)), .val (.int (1 : Int32))] [(.int (own_r3j q0 q0 q1 q1 q2 q2))])) t := by
                intro t kt
                show Steps p.tables e below (T175.setTop (mkF m 272 #[.val (.long q0), .second, .val (.long q1), .second, .val (.long q2), .second, .val (.long q3), .second, .val (.int p4), .val (.int v2), .val (.ref b105), .val (.long q0), .second, .val (.long q1), .second, .val (.long q2), .second, .val (.long v5), .second, .val (.long v7), .second, .val (.long v9), .second, .val (.ref b128), .val (.int v10), .val (.ref b161_0), .val (.int (0 : Int32)), .val (.int (1 : Int32))] [(.int (own_r3j q0 q0 q1 q1 q2 q2))])) _
                refine XS.ifYes X175.here hx rfl (pc0 := 272) (pc' := 279) rfl (hb hby at_272) rfl ((if0 _ _).trans (teq hc272_17).1) (by decide) (by decide) ?_
                show Steps p.tables e below (T175.setTop (mkF m 279 #[.val (.long q0), .second, .val (.long q1), .second, .val (.long q2), .second, .val (.long q3), .second, .val (.int p4), .val (.int v2), .val (.ref b105), .val (.long q0), .second, .val (.long q1), .second, .val (.long q2), .second, .val (.long v5), .second, .val (.long v7), .second, .val (.long v9), .second, .val (.ref b128), .val (.int v10), .val (.ref b161_0), .val (.int (0 : Int32)), .val (.int (1 : Int32))] [])) _
                refine XS.iconst X175.here hx rfl (hb hby at_279) ?_
                exact kt
              refine own_arm hgo176 ?_
              exact own_armEnd X175 N175 e175 (by rw [hv18.trans (if_pos hc272_17)])
            · have hgo177 : ∀ t, Steps p.tables e below (T175.setTop (mkF m 280 #[.val (.long q0), .second, .val (.long q1), .second, .val (.long q2), .second, .val (.long q3), .second, .val (.int p4), .val (.int v2), .val (.ref b105), .val (.long q0), .second, .val (.long q1), .second, .val (.long q2), .second, .val (.long v5), .second, .val (.long v7), .second, .val (.long v9), .second, .val (.ref b128), .val (.int v10), .val (.ref b161_0), .val (.int (0 : Int32)), .val (.int (1 : Int32))] [(.int (1 : Int32))])) t → Steps p.tables e below (T175.setTop (mkF m 272 #[.val (.long q0), .second, .val (.long q1), .second, .val (.long q2), .second, .val (.long q3), .second, .val (.int p4), .val (.int v2), .val (.ref b105), .val (.long q0), .second, .val (.long q1), .second, .val (.long q2), .second, .val (.long v5), .second, .val (.long v7), .second, .val (.long v9), .second, .val (.ref b128), .val (.int v10), .val (.ref b161_0), .val (.int (0 : Int32)), .val (.int (1 : Int32))] [(.int (own_r3j q0 q0 q1 q1 q2 q2))])) t := by
                intro t kt
                show Steps p.tables e below (T175.setTop (mkF m 272 #[.val (.long q0), .second, .val (.long q1), .second, .val (.long q2), .second, .val (.long q3), .second, .val (.int p4), .val (.int v2), .val (.ref b105), .val (.long q0), .second, .val (.long q1), .second, .val (.long q2), .second, .val (.long v5), .second, .val (.long v7), .second, .val (.long v9), .second, .val (.ref b128), .val (.int v10), .val (.ref b161_0), .val (.int (0 : Int32)), .val (.int (1 : Int32))] [(.int (own_r3j q0 q0 q1 q1 q2 q2))])) _
                refine XS.ifNo X175.here hx rfl (hb hby at_272) rfl ((if0 _ _).trans (feq hc272_17).1) ?_
                show Steps p.tables e below (T175.setTop (mkF m 275 #[.val (.long q0), .second, .val (.long q1), .second, .val (.long q2), .second, .val (.long q3), .second, .val (.int p4), .val (.int v2), .val (.ref b105), .val (.long q0), .second, .val (.long q1), .second, .val (.long q2), .second, .val (.long v5), .second, .val (.long v7), .second, .val (.long v9), .second, .val (.ref b128), .val (.int v10), .val (.ref b161_0), .val (.int (0 : Int32)), .val (.int (1 : Int32))] [])) _
                refine XS.iconst X175.here hx rfl (hb hby at_275) ?_
                show Steps p.tables e below (T175.setTop (mkF m 276 #[.val (.long q0), .second, .val (.long q1), .second, .val (.long q2), .second, .val (.long q3), .second, .val (.int p4), .val (.int v2), .val (.ref b105), .val (.long q0), .second, .val (.long q1), .second, .val (.long q2), .second, .val (.long v5), .second, .val (.long v7), .second, .val (.long v9), .second, .val (.ref b128), .val (.int v10), .val (.ref b161_0), .val (.int (0 : Int32)), .val (.int (1 : Int32))] [(.int (1 : Int32))])) _
                refine XS.goto X175.here hx rfl (pc0 := 276) (pc' := 280) rfl (hb hby at_276) (by decide) (by decide) ?_
                exact kt
              refine own_arm hgo177 ?_
              exact own_armEnd X175 N175 e175 (by rw [hv18.trans (if_neg hc272_17)]))
          have hgo179 : ∀ t, Steps p.tables e below (T178.setTop (mkF m 280 #[.val (.long q0), .second, .val (.long q1), .second, .val (.long q2), .second, .val (.long q3), .second, .val (.int p4), .val (.int v2), .val (.ref b105), .val (.long q0), .second, .val (.long q1), .second, .val (.long q2), .second, .val (.long v5), .second, .val (.long v7), .second, .val (.long v9), .second, .val (.ref b128), .val (.int v10), .val (.ref b161_0), .val (.int (0 : Int32)), .val (.int (1 : Int32))] [(.int v18)])) t → Steps p.tables e below (T140.setTop (mkF m 177 #[.val (.long q0), .second, .val (.long q1), .second, .val (.long q2), .second, .val (.long q3), .second, .val (.int p4), .val (.int v2), .val (.ref b105), .val (.long q0), .second, .val (.long q1), .second, .val (.long q2), .second, .val (.long v5), .second, .val (.long v7), .second, .val (.long v9), .second, .val (.ref b128), .val (.int v10), .unset, .unset, .unset] [(.long q0)])) t := by
            intro t kt
            show Steps p.tables e below (T140.setTop (mkF m 177 #[.val (.long q0), .second, .val (.long q1), .second, .val (.long q2), .second, .val (.long q3), .second, .val (.int p4), .val (.int v2), .val (.ref b105), .val (.long q0), .second, .val (.long q1), .second, .val (.long q2), .second, .val (.long v5), .second, .val (.long v7), .second, .val (.long v9), .second, .val (.ref b128), .val (.int v10), .unset, .unset, .unset] [(.long q0)])) _
            refine st161 _ ?_
            show Steps p.tables e below (T161.setTop (mkF m 180 #[.val (.long q0), .second, .val (.long q1), .second, .val (.long q2), .second, .val (.long q3), .second, .val (.int p4), .val (.int v2), .val (.ref b105), .val (.long q0), .second, .val (.long q1), .second, .val (.long q2), .second, .val (.long v5), .second, .val (.long v7), .second, .val (.long v9), .second, .val (.ref b128), .val (.int v10), .unset, .unset, .unset] [(.ref b161_0)])) _
            refine XS.astore X161.here hx rfl (hb hby at_180) rfl rfl (l' := #[.val (.long q0), .second, .val (.long q1), .second, .val (.long q2), .second, .val (.long q3), .second, .val (.int p4), .val (.int v2), .val (.ref b105), .val (.long q0), .second, .val (.long q1), .second, .val (.long q2), .second, .val (.long v5), .second, .val (.long v7), .second, .val (.long v9), .second, .val (.ref b128), .val (.int v10), .val (.ref b161_0), .unset, .unset]) rfl ?_
            show Steps p.tables e below (T161.setTop (mkF m 182 #[.val (.long q0), .second, .val (.long q1), .second, .val (.long q2), .second, .val (.long q3), .second, .val (.int p4), .val (.int v2), .val (.ref b105), .val (.long q0), .second, .val (.long q1), .second, .val (.long q2), .second, .val (.long v5), .second, .val (.long v7), .second, .val (.long v9), .second, .val (.ref b128), .val (.int v10), .val (.ref b161_0), .unset, .unset] [])) _
            refine XS.iconst X161.here hx rfl (hb hby at_182) ?_
            show Steps p.tables e below (T161.setTop (mkF m 183 #[.val (.long q0), .second, .val (.long q1), .second, .val (.long q2), .second, .val (.long q3), .second, .val (.int p4), .val (.int v2), .val (.ref b105), .val (.long q0), .second, .val (.long q1), .second, .val (.long q2), .second, .val (.long v5), .second, .val (.long v7), .second, .val (.long v9), .second, .val (.ref b128), .val (.int v10), .val (.ref b161_0), .unset, .unset] [(.int (0 : Int32))])) _
            refine XS.istore X161.here hx rfl (hb hby at_183) rfl (l' := #[.val (.long q0), .second, .val (.long q1), .second, .val (.long q2), .second, .val (.long q3), .second, .val (.int p4), .val (.int v2), .val (.ref b105), .val (.long q0), .second, .val (.long q1), .second, .val (.long q2), .second, .val (.long v5), .second, .val (.long v7), .second, .val (.long v9), .second, .val (.ref b128), .val (.int v10), .val (.ref b161_0), .val (.int (0 : Int32)), .unset]) rfl ?_
            show Steps p.tables e below (T161.setTop (mkF m 185 #[.val (.long q0), .second, .val (.long q1), .second, .val (.long q2), .second, .val (.long q3), .second, .val (.int p4), .val (.int v2), .val (.ref b105), .val (.long q0), .second, .val (.long q1), .second, .val (.long q2), .second, .val (.long v5), .second, .val (.long v7), .second, .val (.long v9), .second, .val (.ref b128), .val (.int v10), .val (.ref b161_0), .val (.int (0 : Int32)), .unset] [])) _
            refine XS.goto X161.here hx rfl (pc0 := 185) (pc' := 223) rfl (hb hby at_185) (by decide) (by decide) ?_
            show Steps p.tables e below (T161.setTop (mkF m 223 #[.val (.long q0), .second, .val (.long q1), .second, .val (.long q2), .second, .val (.long q3), .second, .val (.int p4), .val (.int v2), .val (.ref b105), .val (.long q0), .second, .val (.long q1), .second, .val (.long q2), .second, .val (.long v5), .second, .val (.long v7), .second, .val (.long v9), .second, .val (.ref b128), .val (.int v10), .val (.ref b161_0), .val (.int (0 : Int32)), .unset] [])) _
            refine XS.iload X161.here hx rfl (hb hby at_223) rfl ?_
            show Steps p.tables e below (T161.setTop (mkF m 225 #[.val (.long q0), .second, .val (.long q1), .second, .val (.long q2), .second, .val (.long q3), .second, .val (.int p4), .val (.int v2), .val (.ref b105), .val (.long q0), .second, .val (.long q1), .second, .val (.long q2), .second, .val (.long v5), .second, .val (.long v7), .second, .val (.long v9), .second, .val (.ref b128), .val (.int v10), .val (.ref b161_0), .val (.int (0 : Int32)), .unset] [(.int v10)])) _
            refine XS.iconst X161.here hx rfl (hb hby at_225) ?_
            show Steps p.tables e below (T161.setTop (mkF m 226 #[.val (.long q0), .second, .val (.long q1), .second, .val (.long q2), .second, .val (.long q3), .second, .val (.int p4), .val (.int v2), .val (.ref b105), .val (.long q0), .second, .val (.long q1), .second, .val (.long q2), .second, .val (.long v5), .second, .val (.long v7), .second, .val (.long v9), .second, .val (.ref b128), .val (.int v10), .val (.ref b161_0), .val (.int (0 : Int32)), .unset] [(.int (2 : Int32)), (.int v10)])) _
            refine XS.icmpYes X161.here hx rfl (pc0 := 226) (pc' := 241) rfl (hb hby at_226) rfl (tlt (by have y0 := hc172_15; simp only [Int32.lt_iff_toInt_lt, ← Int32.toInt_inj, Int32.reduceToInt] at y0 ⊢; omega : v10 < (2 : Int32))).1 (by decide) (by decide) ?_
            show Steps p.tables e below (T161.setTop (mkF m 241 #[.val (.long q0), .second, .val (.long q1), .second, .val (.long q2), .second, .val (.long q3), .second, .val (.int p4), .val (.int v2), .val (.ref b105), .val (.long q0), .second, .val (.long q1), .second, .val (.long q2), .second, .val (.long v5), .second, .val (.long v7), .second, .val (.long v9), .second, .val (.ref b128), .val (.int v10), .val (.ref b161_0), .val (.int (0 : Int32)), .unset] [])) _
            refine XS.iconst X161.here hx rfl (hb hby at_241) ?_
            show Steps p.tables e below (T161.setTop (mkF m 242 #[.val (.long q0), .second, .val (.long q1), .second, .val (.long q2), .second, .val (.long q3), .second, .val (.int p4), .val (.int v2), .val (.ref b105), .val (.long q0), .second, .val (.long q1), .second, .val (.long q2), .second, .val (.long v5), .second, .val (.long v7), .second, .val (.long v9), .second, .val (.ref b128), .val (.int v10), .val (.ref b161_0), .val (.int (0 : Int32)), .unset] [(.int (1 : Int32))])) _
            refine XS.goto X161.here hx rfl (pc0 := 242) (pc' := 246) rfl (hb hby at_242) (by decide) (by decide) ?_
            show Steps p.tables e below (T161.setTop (mkF m 246 #[.val (.long q0), .second, .val (.long q1), .second, .val (.long q2), .second, .val (.long q3), .second, .val (.int p4), .val (.int v2), .val (.ref b105), .val (.long q0), .second, .val (.long q1), .second, .val (.long q2), .second, .val (.long v5), .second, .val (.long v7), .second, .val (.long v9), .second, .val (.ref b128), .val (.int v10), .val (.ref b161_0), .val (.int (0 : Int32)), .unset] [(.int (1 : Int32))])) _
            refine XS.istore X161.here hx rfl (hb hby at_246) rfl (l' := #[.val (.long q0), .second, .val (.long q1), .second, .val (.long q2), .second, .val (.long q3), .second, .val (.int p4), .val (.int v2), .val (.ref b105), .val (.long q0), .second, .val (.long q1), .second, .val (.long q2), .second, .val (.long v5), .second, .val (.long v7), .second, .val (.long v9), .second, .val (.ref b128), .val (.int v10), .val (.ref b161_0), .val (.int (0 : Int32)), .val (.int (1 : Int32))]) rfl ?_
            show Steps p.tables e below (T161.setTop (mkF m 248 #[.val (.long q0), .second, .val (.long q1), .second, .val (.long q2), .second, .val (.long q3), .second, .val (.int p4), .val (.int v2), .val (.ref b105), .val (.long q0), .second, .val (.long q1), .second, .val (.long q2), .second, .val (.long v5), .second, .val (.long v7), .second, .val (.long v9), .second, .val (.ref b128), .val (.int v10), .val (.ref b161_0), .val (.int (0 : Int32)), .val (.int (1 : Int32))] [])) _
            refine XS.aload X161.here hx rfl (hb hby at_248) rfl rfl ?_
            show Steps p.tables e below (T161.setTop (mkF m 250 #[.val (.long q0), .second, .val (.long q1), .second, .val (.long q2), .second, .val (.long q3), .second, .val (.int p4), .val (.int v2), .val (.ref b105), .val (.long q0), .second, .val (.long q1), .second, .val (.long q2), .second, .val (.long v5), .second, .val (.long v7), .second, .val (.long v9), .second, .val (.ref b128), .val (.int v10), .val (.ref b161_0), .val (.int (0 : Int32)), .val (.int (1 : Int32))] [(.ref b105)])) _
            refine XS.aload X161.here hx rfl (hb hby at_250) rfl rfl ?_
            show Steps p.tables e below (T161.setTop (mkF m 252 #[.val (.long q0), .second, .val (.long q1), .second, .val (.long q2), .second, .val (.long q3), .second, .val (.int p4), .val (.int v2), .val (.ref b105), .val (.long q0), .second, .val (.long q1), .second, .val (.long q2), .second, .val (.long v5), .second, .val (.long v7), .second, .val (.long v9), .second, .val (.ref b128), .val (.int v10), .val (.ref b161_0), .val (.int (0 : Int32)), .val (.int (1 : Int32))] [(.ref b161_0), (.ref b105)])) _
            refine st174.trans ?_
            show Steps p.tables e below (T174.setTop (mkF m 255 #[.val (.long q0), .second, .val (.long q1), .second, .val (.long q2), .second, .val (.long q3), .second, .val (.int p4), .val (.int v2), .val (.ref b105), .val (.long q0), .second, .val (.long q1), .second, .val (.long q2), .second, .val (.long v5), .second, .val (.long v7), .second, .val (.long v9), .second, .val (.ref b128), .val (.int v10), .val (.ref b161_0), .val (.int (0 : Int32)), .val (.int (1 : Int32))] [(.int (0 : Int32))])) _
            refine XS.iload X174.here hx rfl (hb hby at_255) rfl ?_
            show Steps p.tables e below (T174.setTop (mkF m 257 #[.val (.long q0), .second, .val (.long q1), .second, .val (.long q2), .second, .val (.long q3), .second, .val (.int p4), .val (.int v2), .val (.ref b105), .val (.long q0), .second, .val (.long q1), .second, .val (.long q2), .second, .val (.long v5), .second, .val (.long v7), .second, .val (.long v9), .second, .val (.ref b128), .val (.int v10), .val (.ref b161_0), .val (.int (0 : Int32)), .val (.int (1 : Int32))] [(.int (0 : Int32)), (.int (0 : Int32))])) _
            refine XS.icmpNo X174.here hx rfl (hb hby at_257) rfl (teq (by decide : (0 : Int32) = (0 : Int32))).2 ?_
            show Steps p.tables e below (T174.setTop (mkF m 260 #[.val (.long q0), .second, .val (.long q1), .second, .val (.long q2), .second, .val (.long q3), .second, .val (.int p4), .val (.int v2), .val (.ref b105), .val (.long q0), .second, .val (.long q1), .second, .val (.long q2), .second, .val (.long v5), .second, .val (.long v7), .second, .val (.long v9), .second, .val (.ref b128), .val (.int v10), .val (.ref b161_0), .val (.int (0 : Int32)), .val (.int (1 : Int32))] [])) _
            refine XS.iload X174.here hx rfl (hb hby at_260) rfl ?_
            show Steps p.tables e below (T174.setTop (mkF m 262 #[.val (.long q0), .second, .val (.long q1), .second, .val (.long q2), .second, .val (.long q3), .second, .val (.int p4), .val (.int v2), .val (.ref b105), .val (.long q0), .second, .val (.long q1), .second, .val (.long q2), .second, .val (.long v5), .second, .val (.long v7), .second, .val (.long v9), .second, .val (.ref b128), .val (.int v10), .val (.ref b161_0), .val (.int (0 : Int32)), .val (.int (1 : Int32))] [(.int (1 : Int32))])) _
            refine XS.ifNo X174.here hx rfl (hb hby at_262) rfl ((if0 _ _).trans (feq (by decide : ¬ ((1 : Int32) = (0 : Int32)))).1) ?_
            show Steps p.tables e below (T174.setTop (mkF m 265 #[.val (.long q0), .second, .val (.long q1), .second, .val (.long q2), .second, .val (.long q3), .second, .val (.int p4), .val (.int v2), .val (.ref b105), .val (.long q0), .second, .val (.long q1), .second, .val (.long q2), .second, .val (.long v5), .second, .val (.long v7), .second, .val (.long v9), .second, .val (.ref b128), .val (.int v10), .val (.ref b161_0), .val (.int (0 : Int32)), .val (.int (1 : Int32))] [])) _
            refine XS.aload X174.here hx rfl (hb hby at_265) rfl rfl ?_
            show Steps p.tables e below (T174.setTop (mkF m 267 #[.val (.long q0), .second, .val (.long q1), .second, .val (.long q2), .second, .val (.long q3), .second, .val (.int p4), .val (.int v2), .val (.ref b105), .val (.long q0), .second, .val (.long q1), .second, .val (.long q2), .second, .val (.long v5), .second, .val (.long v7), .second, .val (.long v9), .second, .val (.ref b128), .val (.int v10), .val (.ref b161_0), .val (.int (0 : Int32)), .val (.int (1 : Int32))] [(.ref b105)])) _
            refine XS.aload X174.here hx rfl (hb hby at_267) rfl rfl ?_
            show Steps p.tables e below (T174.setTop (mkF m 269 #[.val (.long q0), .second, .val (.long q1), .second, .val (.long q2), .second, .val (.long q3), .second, .val (.int p4), .val (.int v2), .val (.ref b105), .val (.long q0), .second, .val (.long q1), .second, .val (.long q2), .second, .val (.long v5), .second, .val (.long v7), .second, .val (.long v9), .second, .val (.ref b128), .val (.int v10), .val (.ref b161_0), .val (.int (0 : Int32)), .val (.int (1 : Int32))] [(.ref b105), (.ref b105)])) _
            refine st175.trans ?_
            show Steps p.tables e below (T175.setTop (mkF m 272 #[.val (.long q0), .second, .val (.long q1), .second, .val (.long q2), .second, .val (.long q3), .second, .val (.int p4), .val (.int v2), .val (.ref b105), .val (.long q0), .second, .val (.long q1), .second, .val (.long q2), .second, .val (.long v5), .second, .val (.long v7), .second, .val (.long v9), .second, .val (.ref b128), .val (.int v10), .val (.ref b161_0), .val (.int (0 : Int32)), .val (.int (1 : Int32))] [(.int (own_r3j q0 q0 q1 q1 q2 q2))])) _
            refine st178 _ ?_
            exact kt
          refine own_go hgo179 ?_
          have hz180 : v18 = 1 := own_leaf1 (q0 := q0) (q1 := q1) (q2 := q2) (q3 := q3) (p4 := p4) (ulc := ulc) hv2 hv5 hv7 hv9 hv10 hv18 hc17_3 hc157_11 hc172_15 hs177_16
          exact own_retZ X178 hx Bd.returns Bd.notSynchronized (hb hby at_280) (by decide) (by decide) (Or.inr hz180) ⟨by rw [hz180], N178⟩
        by_cases hs177_19 : (127 : Int64) < q0
        · obtain ⟨_, _, ⟨T181, L181, k181, n181⟩, -, X181, ⟨Lc181, hQ181, l181, y181, z181⟩, st181⟩ := Jvm.LawKit.callS X140 hx (y := (⟨"java/lang/Long", "valueOf", "(J)Ljava/lang/Long;"⟩ : MethodName)) hown (mvT hZ (hw _ (List.mem_of_getElem? (i := 27) rfl))) (mvT hZ (hw _ (List.mem_of_getElem? (i := 28) rfl))) (mvT hZ (hw _ (List.mem_of_getElem? (i := 29) rfl))) (mvT hZ (hw _ (List.mem_of_getElem? (i := 30) rfl))) (by decide) (backOf (W := 0) (rm5b l Z a0 hw [] q0 (T140.heap) n0 Z148 (by first | assumption | decide : ¬ (q0 < (-128 : Int64))) (by first | assumption | decide : (127 : Int64) < q0)) hZ (hw _ (List.mem_of_getElem? (i := 30) rfl)) (hw _ (List.mem_of_getElem? (i := 29) rfl)) (by decide) (by decide)) (g := (mkF m 177 #[.val (.long q0), .second, .val (.long q1), .second, .val (.long q2), .second, .val (.long q3), .second, .val (.int p4), .val (.int v2), .val (.ref b105), .val (.long q0), .second, .val (.long q1), .second, .val (.long q2), .second, .val (.long v5), .second, .val (.long v7), .second, .val (.long v9), .second, .val (.ref b128), .val (.int v10), .unset, .unset, .unset] [(.long q0)])) rfl (by rw [hml]; rfl) (argsL := [(.long q0)]) (rest := []) (lenOf pd7 rfl) rfl (by show 2 * 0 + _ ≤ _; exact Nat.le_of_eq rfl) (hb hby at_177) (fun _ _ => ⟨rfl, (rfl : T140.heap = T140.heap), (by decide : 2 + 1 ≤ _), (by decide : 6 + 1 ≤ _)⟩)
          dsimp only [Pt.U, Pt.locs, Pt.cells, Pt.slots] at X181 l181 y181 z181 st181 hQ181
          subst l181 y181 z181
          obtain ⟨b181_0, rfl, N181q, K181q, F181_0, F181_1, F181_2⟩ := hQ181
          have F182 := own_staKeep F141 K181q all0
          have F183 := F142.keep K181q nin0
          have F184 := F143.keep K181q
          have F185 := F144.keep K181q nin0
          have F186 := F145.keep K181q nin0
          have F187 := F146.keep K181q nin0
          have F188 := F140_0.keep K181q
          have F189 := F140_1.keep K181q nin0
          have F190 := F140_2.keep K181q nin0
          have F191 := F140_3.keep K181q nin0
          have Z192 : n0 ≤ T181.heap.size := Nat.le_trans Z148 K181q.1
          have K193 : Keep h0 T181.heap [] := K149.trans K181q all0
          have g_b181_0 : n0 ≤ b181_0 := Nat.le_trans Z148 F181_0
          have sz_b181_0 : h0.size ≤ b181_0 := Nat.le_trans K149.1 F181_0
          have ne_ulc_b181_0 : ulc ≠ b181_0 := Nat.ne_of_lt (Nat.lt_of_lt_of_le F142.lt F181_0)
          have ne_b105_b181_0 : b105 ≠ b181_0 := Nat.ne_of_lt (Nat.lt_of_lt_of_le F143.lt F181_0)
          have ne_b128_b181_0 : b128 ≠ b181_0 := Nat.ne_of_lt (Nat.lt_of_lt_of_le F140_0.lt F181_0)
          have N181 := Fr.app N140 N181q
          obtain ⟨cq194, kq194, q194a, q194b, q194c⟩ := isOf hZ (rfl : T181.heap = T181.heap) F184
          obtain ⟨_, _, ⟨T194, L194, k194, n194⟩, -, X194, ⟨Lc194, hQ194, l194, y194, z194⟩, st194⟩ := X181.virtualBack hx (y := (⟨"com/example/millrace/millrace/queue/JournalClock", "equals", "(Ljava/lang/Object;)Z"⟩ : MethodName)) (z := (⟨"com/example/millrace/millrace/queue/JournalClock", "equals", "(Ljava/lang/Object;)Z"⟩ : MethodName)) hown (mvT hZ (hw _ (List.mem_of_getElem? (i := 16) rfl))) (mvT hZ (hw _ (List.mem_of_getElem? (i := 17) rfl))) (notFace_of_selects (args := #[]) (mvT hZ (hw _ (List.mem_of_getElem? (i := 19) rfl)))) (mvT hZ (hw _ (List.mem_of_getElem? (i := 19) rfl))) (mvT hZ (hw _ (List.mem_of_getElem? (i := 18) rfl))) (by decide) (backOf (W := 0) (rm3L l Z a0 hw [] b105 b181_0 (T181.heap) n0 Z192 F181_1) hZ (hw _ (List.mem_of_getElem? (i := 20) rfl)) (hw _ (List.mem_of_getElem? (i := 2) rfl)) (by decide) (by decide)) q194a q194c (g := (mkF m 252 #[.val (.long q0), .second, .val (.long q1), .second, .val (.long q2), .second, .val (.long q3), .second, .val (.int p4), .val (.int v2), .val (.ref b105), .val (.long q0), .second, .val (.long q1), .second, .val (.long q2), .second, .val (.long v5), .second, .val (.long v7), .second, .val (.long v9), .second, .val (.ref b128), .val (.int v10), .val (.ref b181_0), .val (.int (0 : Int32)), .val (.int (1 : Int32))] [(.ref b181_0), (.ref b105)])) rfl (by rw [hml]; rfl) (Steps.refl _) (argsL := [(.ref b181_0)]) (rest := []) (lenOf pd6 rfl) rfl (by show 2 * 0 + _ ≤ _; exact Nat.le_of_eq rfl) (hb hby at_252) (fun _ _ => ⟨rfl, (rfl : T181.heap = T181.heap), (by decide : 3 + 0 ≤ _), (by decide : 7 + 0 ≤ _)⟩)
          dsimp only [Pt.U, Pt.locs, Pt.cells, Pt.slots] at X194 l194 y194 z194 st194 hQ194
          subst l194 y194 z194
          obtain ⟨rfl, N194q, e194⟩ := hQ194
          have N194 := Fr.app N181 N194q
          obtain ⟨cq195, kq195, q195a, q195b, q195c⟩ := isOf hZ e194 F184
          obtain ⟨_, _, ⟨T195, L195, k195, n195⟩, -, X195, ⟨Lc195, hQ195, l195, y195, z195⟩, st195⟩ := X194.virtualBack hx (y := (⟨"com/example/millrace/millrace/queue/JournalClock", "equals", "(Ljava/lang/Object;)Z"⟩ : MethodName)) (z := (⟨"com/example/millrace/millrace/queue/JournalClock", "equals", "(Ljava/lang/Object;)Z"⟩ : MethodName)) hown (mvT hZ (hw _ (List.mem_of_getElem? (i := 16) rfl))) (mvT hZ (hw _ (List.mem_of_getElem? (i := 17) rfl))) (notFace_of_selects (args := #[]) (mvT hZ (hw _ (List.mem_of_getElem? (i := 19) rfl)))) (mvT hZ (hw _ (List.mem_of_getElem? (i := 19) rfl))) (mvT hZ (hw _ (List.mem_of_getElem? (i := 18) rfl))) (by decide) (backOf (W := 0) (rm3j l Z a0 hw [] b105 b105 q0 q0 q1 q1 q2 q2 (T181.heap) n0 Z192 F184 F185 F185 F186 F186 F187 F187) hZ (hw _ (List.mem_of_getElem? (i := 20) rfl)) (hw _ (List.mem_of_getElem? (i := 2) rfl)) (by decide) (by decide)) q195a q195c (g := (mkF m 269 #[.val (.long q0), .second, .val (.long q1), .second, .val (.long q2), .second, .val (.long q3), .second, .val (.int p4), .val (.int v2), .val (.ref b105), .val (.long q0), .second, .val (.long q1), .second, .val (.long q2), .second, .val (.long v5), .second, .val (.long v7), .second, .val (.long v9), .second, .val (.ref b128), .val (.int v10), .val (.ref b181_0), .val (.int (0 : Int32)), .val (.int (1 : Int32))] [(.ref b105), (.ref b105)])) rfl (by rw [hml]; rfl) (Steps.refl _) (argsL := [(.ref b105)]) (rest := []) (lenOf pd6 rfl) rfl (by show 2 * 0 + _ ≤ _; exact Nat.le_of_eq rfl) (hb hby at_269) (fun _ _ => ⟨rfl, e194, (by decide : 3 + 0 ≤ _), (by decide : 7 + 0 ≤ _)⟩)
          dsimp only [Pt.U, Pt.locs, Pt.cells, Pt.slots] at X195 l195 y195 z195 st195 hQ195
          subst l195 y195 z195
          obtain ⟨rfl, N195q, e195⟩ := hQ195
          have N195 := Fr.app N194 N195q
          obtain ⟨v21, hv21⟩ : ∃ z : Int32, z = (if (own_r3j q0 q0 q1 q1 q2 q2) = (0 : Int32) then (0 : Int32) else (1 : Int32)) := ⟨_, rfl⟩
          obtain ⟨T198, lc198, X198, N198, e198, st198⟩ := own_mrg (n0 := n0) (h := T181.heap) (g := (mkF m 272 #[.val (.long q0), .second, .val (.long q1), .second, .val (.long q2), .second, .val (.long q3), .second, .val (.int p4), .val (.int v2), .val (.ref b105), .val (.long q0), .second, .val (.long q1), .second, .val (.long q2), .second, .val (.long v5), .second, .val (.long v7), .second, .val (.long v9), .second, .val (.ref b128), .val (.int v10), .val (.ref b181_0), .val (.int (0 : Int32)), .val (.int (1 : Int32))] [(.int (own_r3j q0 q0 q1 q1 q2 q2))])) (g' := (mkF m 280 #[.val (.long q0), .second, .val (.long q1), .second, .val (.long q2), .second, .val (.long q3), .second, .val (.int p4), .val (.int v2), .val (.ref b105), .val (.long q0), .second, .val (.long q1), .second, .val (.long q2), .second, .val (.long v5), .second, .val (.long v7), .second, .val (.long v9), .second, .val (.ref b128), .val (.int v10), .val (.ref b181_0), .val (.int (0 : Int32)), .val (.int (1 : Int32))] [(.int v21)])) X195 (by
            by_cases hc272_20 : (own_r3j q0 q0 q1 q1 q2 q2) = (0 : Int32)
            · have hgo196 : ∀ t, Steps p.tables e below (T195.setTop (mkF m 280 #[.val (.long q0), .second, .val (.long q1), .second, .val (.long q2), .second, .val (.long q3), .second, .val (.int p4), .val (.int v2), .val (.ref b105), .val (.long q0), .second, .val (.long q1), .second, .val (.long q2), .second, .val (.long v5), .second, .val (.long v7), .second, .val (.long v9), .second, .val (.ref b128), .val (.int v10), .val (.ref b181_0), .val (.int (0 : Int32)), .val (.int (1 : Int32))] [(.int (0 : Int32))])) t → Steps p.tables e below (T195.setTop (mkF m 272 #[.val (.long q0), .second, .val (.long q1), .second, .val (.long q2), .second, .val (.long q3), .second, .val (.int p4), .val (.int v2), .val (.ref b105), .val (.long q0), .second, .val (.long q1), .second, .val (.long q2), .second, .val (.long v5), .second, .val (.long v7), .second, .val (.long v9), .second, .val (.ref b128), .val (.int v10), .val (.ref b181_0), .val (.int (0 : Int32)), .val (.int (1 : Int32))] [(.int (own_r3j q0 q0 q1 q1 q2 q2))])) t := by
                intro t kt
                show Steps p.tables e below (T195.setTop (mkF m 272 #[.val (.long q0), .second, .val (.long q1), .second, .val (.long q2), .second, .val (.long q3), .second, .val (.int p4), .val (.int v2), .val (.ref b105), .val (.long q0), .second, .val (.long q1), .second, .val (.long q2), .second, .val (.long v5), .second, .val (.long v7), .second, .val (.long v9), .second, .val (.ref b128), .val (.int v10), .val (.ref b181_0), .val (.int (0 : Int32)), .val (.int (1 : Int32))] [(.int (own_r3j q0 q0 q1 q1 q2 q2))])) _
                refine XS.ifYes X195.here hx rfl (pc0 := 272) (pc' := 279) rfl (hb hby at_272) rfl ((if0 _ _).trans (teq hc272_20).1) (by decide) (by decide) ?_
                show Steps p.tables e below (T195.setTop (mkF m 279 #[.val (.long q0), .second, .val (.long q1), .second, .val (.long q2), .second, .val (.long q3), .second, .val (.int p4), .val (.int v2), .val (.ref b105), .val (.long q0), .second, .val (.long q1), .second, .val (.long q2), .second, .val (.long v5), .second, .val (.long v7), .second, .val (.long v9), .second, .val (.ref b128), .val (.int v10), .val (.ref b181_0), .val (.int (0 : Int32)), .val (.int (1 : Int32))] [])) _
                refine XS.iconst X195.here hx rfl (hb hby at_279) ?_
                exact kt
              refine own_arm hgo196 ?_
              exact own_armEnd X195 N195 e195 (by rw [hv21.trans (if_pos hc272_20)])
            · have hgo197 : ∀ t, Steps p.tables e below (T195.setTop (mkF m 280 #[.val (.long q0), .second, .val (.long q1), .second, .val (.long q2), .second, .val (.long q3), .second, .val (.int p4), .val (.int v2), .val (.ref b105), .val (.long q0), .second, .val (.long q1), .second, .val (.long q2), .second, .val (.long v5), .second, .val (.long v7), .second, .val (.long v9), .second, .val (.ref b128), .val (.int v10), .val (.ref b181_0), .val (.int (0 : Int32)), .val (.int (1 : Int32))] [(.int (1 : Int32))])) t → Steps p.tables e below (T195.setTop (mkF m 272 #[.val (.long q0), .second, .val (.long q1), .second, .val (.long q2), .second, .val (.long q3), .second, .val (.int p4), .val (.int v2), .val (.ref b105), .val (.long q0), .second, .val (.long q1), .second, .val (.long q2), .second, .val (.long v5), .second, .val (.long v7), .second, .val (.long v9), .second, .val (.ref b128), .val (.int v10), .val (.ref b181_0), .val (.int (0 : Int32)), .val (.int (1 : Int32))] [(.int (own_r3j q0 q0 q1 q1 q2 q2))])) t := by
                intro t kt
                show Steps p.tables e below (T195.setTop (mkF m 272 #[.val (.long q0), .second, .val (.long q1), .second, .val (.long q2), .second, .val (.long q3), .second, .val (.int p4), .val (.int v2), .val (.ref b105), .val (.long q0), .second, .val (.long q1), .second, .val (.long q2), .second, .val (.long v5), .second, .val (.long v7), .second, .val (.long v9), .second, .val (.ref b128), .val (.int v10), .val (.ref b181_0), .val (.int (0 : Int32)), .val (.int (1 : Int32))] [(.int (own_r3j q0 q0 q1 q1 q2 q2))])) _
                refine XS.ifNo X195.here hx rfl (hb hby at_272) rfl ((if0 _ _).trans (feq hc272_20).1) ?_
                show Steps p.tables e below (T195.setTop (mkF m 275 #[.val (.long q0), .second, .val (.long q1), .second, .val (.long q2), .second, .val (.long q3), .second, .val (.int p4), .val (.int v2), .val (.ref b105), .val (.long q0), .second, .val (.long q1), .second, .val (.long q2), .second, .val (.long v5), .second, .val (.long v7), .second, .val (.long v9), .second, .val (.ref b128), .val (.int v10), .val (.ref b181_0), .val (.int (0 : Int32)), .val (.int (1 : Int32))] [])) _
                refine XS.iconst X195.here hx rfl (hb hby at_275) ?_
                show Steps p.tables e below (T195.setTop (mkF m 276 #[.val (.long q0), .second, .val (.long q1), .second, .val (.long q2), .second, .val (.long q3), .second, .val (.int p4), .val (.int v2), .val (.ref b105), .val (.long q0), .second, .val (.long q1), .second, .val (.long q2), .second, .val (.long v5), .second, .val (.long v7), .second, .val (.long v9), .second, .val (.ref b128), .val (.int v10), .val (.ref b181_0), .val (.int (0 : Int32)), .val (.int (1 : Int32))] [(.int (1 : Int32))])) _
                refine XS.goto X195.here hx rfl (pc0 := 276) (pc' := 280) rfl (hb hby at_276) (by decide) (by decide) ?_
                exact kt
              refine own_arm hgo197 ?_
              exact own_armEnd X195 N195 e195 (by rw [hv21.trans (if_neg hc272_20)]))
          have hgo199 : ∀ t, Steps p.tables e below (T198.setTop (mkF m 280 #[.val (.long q0), .second, .val (.long q1), .second, .val (.long q2), .second, .val (.long q3), .second, .val (.int p4), .val (.int v2), .val (.ref b105), .val (.long q0), .second, .val (.long q1), .second, .val (.long q2), .second, .val (.long v5), .second, .val (.long v7), .second, .val (.long v9), .second, .val (.ref b128), .val (.int v10), .val (.ref b181_0), .val (.int (0 : Int32)), .val (.int (1 : Int32))] [(.int v21)])) t → Steps p.tables e below (T140.setTop (mkF m 177 #[.val (.long q0), .second, .val (.long q1), .second, .val (.long q2), .second, .val (.long q3), .second, .val (.int p4), .val (.int v2), .val (.ref b105), .val (.long q0), .second, .val (.long q1), .second, .val (.long q2), .second, .val (.long v5), .second, .val (.long v7), .second, .val (.long v9), .second, .val (.ref b128), .val (.int v10), .unset, .unset, .unset] [(.long q0)])) t := by
            intro t kt
            show Steps p.tables e below (T140.setTop (mkF m 177 #[.val (.long q0), .second, .val (.long q1), .second, .val (.long q2), .second, .val (.long q3), .second, .val (.int p4), .val (.int v2), .val (.ref b105), .val (.long q0), .second, .val (.long q1), .second, .val (.long q2), .second, .val (.long v5), .second, .val (.long v7), .second, .val (.long v9), .second, .val (.ref b128), .val (.int v10), .unset, .unset, .unset] [(.long q0)])) _
            refine st181 _ ?_
            show Steps p.tables e below (T181.setTop (mkF m 180 #[.val (.long q0), .second, .val (.long q1), .second, .val (.long q2), .second, .val (.long q3), .second, .val (.int p4), .val (.int v2), .val (.ref b105), .val (.long q0), .second, .val (.long q1), .second, .val (.long q2), .second, .val (.long v5), .second, .val (.long v7), .second, .val (.long v9), .second, .val (.ref b128), .val (.int v10), .unset, .unset, .unset] [(.ref b181_0)])) _
            refine XS.astore X181.here hx rfl (hb hby at_180) rfl rfl (l' := #[.val (.long q0), .second, .val (.long q1), .second, .val (.long q2), .second, .val (.long q3), .second, .val (.int p4), .val (.int v2), .val (.ref b105), .val (.long q0), .second, .val (.long q1), .second, .val (.long q2), .second, .val (.long v5), .second, .val (.long v7), .second, .val (.long v9), .second, .val (.ref b128), .val (.int v10), .val (.ref b181_0), .unset, .unset]) rfl ?_
            show Steps p.tables e below (T181.setTop (mkF m 182 #[.val (.long q0), .second, .val (.long q1), .second, .val (.long q2), .second, .val (.long q3), .second, .val (.int p4), .val (.int v2), .val (.ref b105), .val (.long q0), .second, .val (.long q1), .second, .val (.long q2), .second, .val (.long v5), .second, .val (.long v7), .second, .val (.long v9), .second, .val (.ref b128), .val (.int v10), .val (.ref b181_0), .unset, .unset] [])) _
            refine XS.iconst X181.here hx rfl (hb hby at_182) ?_
            show Steps p.tables e below (T181.setTop (mkF m 183 #[.val (.long q0), .second, .val (.long q1), .second, .val (.long q2), .second, .val (.long q3), .second, .val (.int p4), .val (.int v2), .val (.ref b105), .val (.long q0), .second, .val (.long q1), .second, .val (.long q2), .second, .val (.long v5), .second, .val (.long v7), .second, .val (.long v9), .second, .val (.ref b128), .val (.int v10), .val (.ref b181_0), .unset, .unset] [(.int (0 : Int32))])) _
            refine XS.istore X181.here hx rfl (hb hby at_183) rfl (l' := #[.val (.long q0), .second, .val (.long q1), .second, .val (.long q2), .second, .val (.long q3), .second, .val (.int p4), .val (.int v2), .val (.ref b105), .val (.long q0), .second, .val (.long q1), .second, .val (.long q2), .second, .val (.long v5), .second, .val (.long v7), .second, .val (.long v9), .second, .val (.ref b128), .val (.int v10), .val (.ref b181_0), .val (.int (0 : Int32)), .unset]) rfl ?_
            show Steps p.tables e below (T181.setTop (mkF m 185 #[.val (.long q0), .second, .val (.long q1), .second, .val (.long q2), .second, .val (.long q3), .second, .val (.int p4), .val (.int v2), .val (.ref b105), .val (.long q0), .second, .val (.long q1), .second, .val (.long q2), .second, .val (.long v5), .second, .val (.long v7), .second, .val (.long v9), .second, .val (.ref b128), .val (.int v10), .val (.ref b181_0), .val (.int (0 : Int32)), .unset] [])) _
            refine XS.goto X181.here hx rfl (pc0 := 185) (pc' := 223) rfl (hb hby at_185) (by decide) (by decide) ?_
            show Steps p.tables e below (T181.setTop (mkF m 223 #[.val (.long q0), .second, .val (.long q1), .second, .val (.long q2), .second, .val (.long q3), .second, .val (.int p4), .val (.int v2), .val (.ref b105), .val (.long q0), .second, .val (.long q1), .second, .val (.long q2), .second, .val (.long v5), .second, .val (.long v7), .second, .val (.long v9), .second, .val (.ref b128), .val (.int v10), .val (.ref b181_0), .val (.int (0 : Int32)), .unset] [])) _
            refine XS.iload X181.here hx rfl (hb hby at_223) rfl ?_
            show Steps p.tables e below (T181.setTop (mkF m 225 #[.val (.long q0), .second, .val (.long q1), .second, .val (.long q2), .second, .val (.long q3), .second, .val (.int p4), .val (.int v2), .val (.ref b105), .val (.long q0), .second, .val (.long q1), .second, .val (.long q2), .second, .val (.long v5), .second, .val (.long v7), .second, .val (.long v9), .second, .val (.ref b128), .val (.int v10), .val (.ref b181_0), .val (.int (0 : Int32)), .unset] [(.int v10)])) _
            refine XS.iconst X181.here hx rfl (hb hby at_225) ?_
            show Steps p.tables e below (T181.setTop (mkF m 226 #[.val (.long q0), .second, .val (.long q1), .second, .val (.long q2), .second, .val (.long q3), .second, .val (.int p4), .val (.int v2), .val (.ref b105), .val (.long q0), .second, .val (.long q1), .second, .val (.long q2), .second, .val (.long v5), .second, .val (.long v7), .second, .val (.long v9), .second, .val (.ref b128), .val (.int v10), .val (.ref b181_0), .val (.int (0 : Int32)), .unset] [(.int (2 : Int32)), (.int v10)])) _
            refine XS.icmpYes X181.here hx rfl (pc0 := 226) (pc' := 241) rfl (hb hby at_226) rfl (tlt (by have y0 := hc172_15; simp only [Int32.lt_iff_toInt_lt, ← Int32.toInt_inj, Int32.reduceToInt] at y0 ⊢; omega : v10 < (2 : Int32))).1 (by decide) (by decide) ?_
            show Steps p.tables e below (T181.setTop (mkF m 241 #[.val (.long q0), .second, .val (.long q1), .second, .val (.long q2), .second, .val (.long q3), .second, .val (.int p4), .val (.int v2), .val (.ref b105), .val (.long q0), .second, .val (.long q1), .second, .val (.long q2), .second, .val (.long v5), .second, .val (.long v7), .second, .val (.long v9), .second, .val (.ref b128), .val (.int v10), .val (.ref b181_0), .val (.int (0 : Int32)), .unset] [])) _
            refine XS.iconst X181.here hx rfl (hb hby at_241) ?_
            show Steps p.tables e below (T181.setTop (mkF m 242 #[.val (.long q0), .second, .val (.long q1), .second, .val (.long q2), .second, .val (.long q3), .second, .val (.int p4), .val (.int v2), .val (.ref b105), .val (.long q0), .second, .val (.long q1), .second, .val (.long q2), .second, .val (.long v5), .second, .val (.long v7), .second, .val (.long v9), .second, .val (.ref b128), .val (.int v10), .val (.ref b181_0), .val (.int (0 : Int32)), .unset] [(.int (1 : Int32))])) _
            refine XS.goto X181.here hx rfl (pc0 := 242) (pc' := 246) rfl (hb hby at_242) (by decide) (by decide) ?_
            show Steps p.tables e below (T181.setTop (mkF m 246 #[.val (.long q0), .second, .val (.long q1), .second, .val (.long q2), .second, .val (.long q3), .second, .val (.int p4), .val (.int v2), .val (.ref b105), .val (.long q0), .second, .val (.long q1), .second, .val (.long q2), .second, .val (.long v5), .second, .val (.long v7), .second, .val (.long v9), .second, .val (.ref b128), .val (.int v10), .val (.ref b181_0), .val (.int (0 : Int32)), .unset] [(.int (1 : Int32))])) _
            refine XS.istore X181.here hx rfl (hb hby at_246) rfl (l' := #[.val (.long q0), .second, .val (.long q1), .second, .val (.long q2), .second, .val (.long q3), .second, .val (.int p4), .val (.int v2), .val (.ref b105), .val (.long q0), .second, .val (.long q1), .second, .val (.long q2), .second, .val (.long v5), .second, .val (.long v7), .second, .val (.long v9), .second, .val (.ref b128), .val (.int v10), .val (.ref b181_0), .val (.int (0 : Int32)), .val (.int (1 : Int32))]) rfl ?_
            show Steps p.tables e below (T181.setTop (mkF m 248 #[.val (.long q0), .second, .val (.long q1), .second, .val (.long q2), .second, .val (.long q3), .second, .val (.int p4), .val (.int v2), .val (.ref b105), .val (.long q0), .second, .val (.long q1), .second, .val (.long q2), .second, .val (.long v5), .second, .val (.long v7), .second, .val (.long v9), .second, .val (.ref b128), .val (.int v10), .val (.ref b181_0), .val (.int (0 : Int32)), .val (.int (1 : Int32))] [])) _
            refine XS.aload X181.here hx rfl (hb hby at_248) rfl rfl ?_
            show Steps p.tables e below (T181.setTop (mkF m 250 #[.val (.long q0), .second, .val (.long q1), .second, .val (.long q2), .second, .val (.long q3), .second, .val (.int p4), .val (.int v2), .val (.ref b105), .val (.long q0), .second, .val (.long q1), .second, .val (.long q2), .second, .val (.long v5), .second, .val (.long v7), .second, .val (.long v9), .second, .val (.ref b128), .val (.int v10), .val (.ref b181_0), .val (.int (0 : Int32)), .val (.int (1 : Int32))] [(.ref b105)])) _
            refine XS.aload X181.here hx rfl (hb hby at_250) rfl rfl ?_
            show Steps p.tables e below (T181.setTop (mkF m 252 #[.val (.long q0), .second, .val (.long q1), .second, .val (.long q2), .second, .val (.long q3), .second, .val (.int p4), .val (.int v2), .val (.ref b105), .val (.long q0), .second, .val (.long q1), .second, .val (.long q2), .second, .val (.long v5), .second, .val (.long v7), .second, .val (.long v9), .second, .val (.ref b128), .val (.int v10), .val (.ref b181_0), .val (.int (0 : Int32)), .val (.int (1 : Int32))] [(.ref b181_0), (.ref b105)])) _
            refine st194.trans ?_
            show Steps p.tables e below (T194.setTop (mkF m 255 #[.val (.long q0), .second, .val (.long q1), .second, .val (.long q2), .second, .val (.long q3), .second, .val (.int p4), .val (.int v2), .val (.ref b105), .val (.long q0), .second, .val (.long q1), .second, .val (.long q2), .second, .val (.long v5), .second, .val (.long v7), .second, .val (.long v9), .second, .val (.ref b128), .val (.int v10), .val (.ref b181_0), .val (.int (0 : Int32)), .val (.int (1 : Int32))] [(.int (0 : Int32))])) _
            refine XS.iload X194.here hx rfl (hb hby at_255) rfl ?_
            show Steps p.tables e below (T194.setTop (mkF m 257 #[.val (.long q0), .second, .val (.long q1), .second, .val (.long q2), .second, .val (.long q3), .second, .val (.int p4), .val (.int v2), .val (.ref b105), .val (.long q0), .second, .val (.long q1), .second, .val (.long q2), .second, .val (.long v5), .second, .val (.long v7), .second, .val (.long v9), .second, .val (.ref b128), .val (.int v10), .val (.ref b181_0), .val (.int (0 : Int32)), .val (.int (1 : Int32))] [(.int (0 : Int32)), (.int (0 : Int32))])) _
            refine XS.icmpNo X194.here hx rfl (hb hby at_257) rfl (teq (by decide : (0 : Int32) = (0 : Int32))).2 ?_
            show Steps p.tables e below (T194.setTop (mkF m 260 #[.val (.long q0), .second, .val (.long q1), .second, .val (.long q2), .second, .val (.long q3), .second, .val (.int p4), .val (.int v2), .val (.ref b105), .val (.long q0), .second, .val (.long q1), .second, .val (.long q2), .second, .val (.long v5), .second, .val (.long v7), .second, .val (.long v9), .second, .val (.ref b128), .val (.int v10), .val (.ref b181_0), .val (.int (0 : Int32)), .val (.int (1 : Int32))] [])) _
            refine XS.iload X194.here hx rfl (hb hby at_260) rfl ?_
            show Steps p.tables e below (T194.setTop (mkF m 262 #[.val (.long q0), .second, .val (.long q1), .second, .val (.long q2), .second, .val (.long q3), .second, .val (.int p4), .val (.int v2), .val (.ref b105), .val (.long q0), .second, .val (.long q1), .second, .val (.long q2), .second, .val (.long v5), .second, .val (.long v7), .second, .val (.long v9), .second, .val (.ref b128), .val (.int v10), .val (.ref b181_0), .val (.int (0 : Int32)), .val (.int (1 : Int32))] [(.int (1 : Int32))])) _
            refine XS.ifNo X194.here hx rfl (hb hby at_262) rfl ((if0 _ _).trans (feq (by decide : ¬ ((1 : Int32) = (0 : Int32)))).1) ?_
            show Steps p.tables e below (T194.setTop (mkF m 265 #[.val (.long q0), .second, .val (.long q1), .second, .val (.long q2), .second, .val (.long q3), .second, .val (.int p4), .val (.int v2), .val (.ref b105), .val (.long q0), .second, .val (.long q1), .second, .val (.long q2), .second, .val (.long v5), .second, .val (.long v7), .second, .val (.long v9), .second, .val (.ref b128), .val (.int v10), .val (.ref b181_0), .val (.int (0 : Int32)), .val (.int (1 : Int32))] [])) _
            refine XS.aload X194.here hx rfl (hb hby at_265) rfl rfl ?_
            show Steps p.tables e below (T194.setTop (mkF m 267 #[.val (.long q0), .second, .val (.long q1), .second, .val (.long q2), .second, .val (.long q3), .second, .val (.int p4), .val (.int v2), .val (.ref b105), .val (.long q0), .second, .val (.long q1), .second, .val (.long q2), .second, .val (.long v5), .second, .val (.long v7), .second, .val (.long v9), .second, .val (.ref b128), .val (.int v10), .val (.ref b181_0), .val (.int (0 : Int32)), .val (.int (1 : Int32))] [(.ref b105)])) _
            refine XS.aload X194.here hx rfl (hb hby at_267) rfl rfl ?_
            show Steps p.tables e below (T194.setTop (mkF m 269 #[.val (.long q0), .second, .val (.long q1), .second, .val (.long q2), .second, .val (.long q3), .second, .val (.int p4), .val (.int v2), .val (.ref b105), .val (.long q0), .second, .val (.long q1), .second, .val (.long q2), .second, .val (.long v5), .second, .val (.long v7), .second, .val (.long v9), .second, .val (.ref b128), .val (.int v10), .val (.ref b181_0), .val (.int (0 : Int32)), .val (.int (1 : Int32))] [(.ref b105), (.ref b105)])) _
            refine st195.trans ?_
            show Steps p.tables e below (T195.setTop (mkF m 272 #[.val (.long q0), .second, .val (.long q1), .second, .val (.long q2), .second, .val (.long q3), .second, .val (.int p4), .val (.int v2), .val (.ref b105), .val (.long q0), .second, .val (.long q1), .second, .val (.long q2), .second, .val (.long v5), .second, .val (.long v7), .second, .val (.long v9), .second, .val (.ref b128), .val (.int v10), .val (.ref b181_0), .val (.int (0 : Int32)), .val (.int (1 : Int32))] [(.int (own_r3j q0 q0 q1 q1 q2 q2))])) _
            refine st198 _ ?_
            exact kt
          refine own_go hgo199 ?_
          have hz200 : v21 = 1 := own_leaf2 (q0 := q0) (q1 := q1) (q2 := q2) (q3 := q3) (p4 := p4) (ulc := ulc) hv2 hv5 hv7 hv9 hv10 hv21 hc17_3 hc157_11 hc172_15 hs177_16 hs177_19
          exact own_retZ X198 hx Bd.returns Bd.notSynchronized (hb hby at_280) (by decide) (by decide) (Or.inr hz200) ⟨by rw [hz200], N198⟩
        · obtain ⟨_, _, ⟨T201, L201, k201, n201⟩, -, X201, ⟨Lc201, hQ201, l201, y201, z201⟩, st201⟩ := Jvm.LawKit.callS X140 hx (y := (⟨"java/lang/Long", "valueOf", "(J)Ljava/lang/Long;"⟩ : MethodName)) hown (mvT hZ (hw _ (List.mem_of_getElem? (i := 27) rfl))) (mvT hZ (hw _ (List.mem_of_getElem? (i := 28) rfl))) (mvT hZ (hw _ (List.mem_of_getElem? (i := 29) rfl))) (mvT hZ (hw _ (List.mem_of_getElem? (i := 30) rfl))) (by decide) (backOf (W := 0) (rm5c l Z a0 hw [] q0 ulc (T140.heap) n0 Z148 F141 F142 (by first | assumption | decide : ¬ (q0 < (-128 : Int64))) (by first | assumption | decide : ¬ ((127 : Int64) < q0))) hZ (hw _ (List.mem_of_getElem? (i := 30) rfl)) (hw _ (List.mem_of_getElem? (i := 29) rfl)) (by decide) (by decide)) (g := (mkF m 177 #[.val (.long q0), .second, .val (.long q1), .second, .val (.long q2), .second, .val (.long q3), .second, .val (.int p4), .val (.int v2), .val (.ref b105), .val (.long q0), .second, .val (.long q1), .second, .val (.long q2), .second, .val (.long v5), .second, .val (.long v7), .second, .val (.long v9), .second, .val (.ref b128), .val (.int v10), .unset, .unset, .unset] [(.long q0)])) rfl (by rw [hml]; rfl) (argsL := [(.long q0)]) (rest := []) (lenOf pd7 rfl) rfl (by show 2 * 0 + _ ≤ _; exact Nat.le_of_eq rfl) (hb hby at_177) (fun _ _ => ⟨rfl, (rfl : T140.heap = T140.heap), (by decide : 2 + 0 ≤ _), (by decide : 6 + 0 ≤ _)⟩)
          dsimp only [Pt.U, Pt.locs, Pt.cells, Pt.slots] at X201 l201 y201 z201 st201 hQ201
          subst l201 y201 z201
          obtain ⟨b201_0, rfl, N201q, K201q, F201_0⟩ := hQ201
          have F202 := own_staKeep F141 K201q all0
          have F203 := F142.keep K201q nin0
          have F204 := F143.keep K201q
          have F205 := F144.keep K201q nin0
          have F206 := F145.keep K201q nin0
          have F207 := F146.keep K201q nin0
          have F208 := F140_0.keep K201q
          have F209 := F140_1.keep K201q nin0
          have F210 := F140_2.keep K201q nin0
          have F211 := F140_3.keep K201q nin0
          have Z212 : n0 ≤ T201.heap.size := Nat.le_trans Z148 K201q.1
          have K213 : Keep h0 T201.heap [] := K149.trans K201q all0
          have N201 := Fr.app N140 N201q
          obtain ⟨cq214, kq214, q214a, q214b, q214c⟩ := isOf hZ (rfl : T201.heap = T201.heap) F204
          obtain ⟨_, _, ⟨T214, L214, k214, n214⟩, -, X214, ⟨Lc214, hQ214, l214, y214, z214⟩, st214⟩ := X201.virtualBack hx (y := (⟨"com/example/millrace/millrace/queue/JournalClock", "equals", "(Ljava/lang/Object;)Z"⟩ : MethodName)) (z := (⟨"com/example/millrace/millrace/queue/JournalClock", "equals", "(Ljava/lang/Object;)Z"⟩ : MethodName)) hown (mvT hZ (hw _ (List.mem_of_getElem? (i := 16) rfl))) (mvT hZ (hw _ (List.mem_of_getElem? (i := 17) rfl))) (notFace_of_selects (args := #[]) (mvT hZ (hw _ (List.mem_of_getElem? (i := 19) rfl)))) (mvT hZ (hw _ (List.mem_of_getElem? (i := 19) rfl))) (mvT hZ (hw _ (List.mem_of_getElem? (i := 18) rfl))) (by decide) (backOf (W := 0) (rm3L l Z a0 hw [] b105 b201_0 (T201.heap) n0 Z212 F201_0) hZ (hw _ (List.mem_of_getElem? (i := 20) rfl)) (hw _ (List.mem_of_getElem? (i := 2) rfl)) (by decide) (by decide)) q214a q214c (g := (mkF m 252 #[.val (.long q0), .second, .val (.long q1), .second, .val (.long q2), .second, .val (.long q3), .second, .val (.int p4), .val (.int v2), .val (.ref b105), .val (.long q0), .second, .val (.long q1), .second, .val (.long q2), .second, .val (.long v5), .second, .val (.long v7), .second, .val (.long v9), .second, .val (.ref b128), .val (.int v10), .val (.ref b201_0), .val (.int (0 : Int32)), .val (.int (1 : Int32))] [(.ref b201_0), (.ref b105)])) rfl (by rw [hml]; rfl) (Steps.refl _) (argsL := [(.ref b201_0)]) (rest := []) (lenOf pd6 rfl) rfl (by show 2 * 0 + _ ≤ _; exact Nat.le_of_eq rfl) (hb hby at_252) (fun _ _ => ⟨rfl, (rfl : T201.heap = T201.heap), (by decide : 2 + 0 ≤ _), (by decide : 6 + 0 ≤ _)⟩)
          dsimp only [Pt.U, Pt.locs, Pt.cells, Pt.slots] at X214 l214 y214 z214 st214 hQ214
          subst l214 y214 z214
          obtain ⟨rfl, N214q, e214⟩ := hQ214
          have N214 := Fr.app N201 N214q
          obtain ⟨cq215, kq215, q215a, q215b, q215c⟩ := isOf hZ e214 F204
          obtain ⟨_, _, ⟨T215, L215, k215, n215⟩, -, X215, ⟨Lc215, hQ215, l215, y215, z215⟩, st215⟩ := X214.virtualBack hx (y := (⟨"com/example/millrace/millrace/queue/JournalClock", "equals", "(Ljava/lang/Object;)Z"⟩ : MethodName)) (z := (⟨"com/example/millrace/millrace/queue/JournalClock", "equals", "(Ljava/lang/Object;)Z"⟩ : MethodName)) hown (mvT hZ (hw _ (List.mem_of_getElem? (i := 16) rfl))) (mvT hZ (hw _ (List.mem_of_getElem? (i := 17) rfl))) (notFace_of_selects (args := #[]) (mvT hZ (hw _ (List.mem_of_getElem? (i := 19) rfl)))) (mvT hZ (hw _ (List.mem_of_getElem? (i := 19) rfl))) (mvT hZ (hw _ (List.mem_of_getElem? (i := 18) rfl))) (by decide) (backOf (W := 0) (rm3j l Z a0 hw [] b105 b105 q0 q0 q1 q1 q2 q2 (T201.heap) n0 Z212 F204 F205 F205 F206 F206 F207 F207) hZ (hw _ (List.mem_of_getElem? (i := 20) rfl)) (hw _ (List.mem_of_getElem? (i := 2) rfl)) (by decide) (by decide)) q215a q215c (g := (mkF m 269 #[.val (.long q0), .second, .val (.long q1), .second, .val (.long q2), .second, .val (.long q3), .second, .val (.int p4), .val (.int v2), .val (.ref b105), .val (.long q0), .second, .val (.long q1), .second, .val (.long q2), .second, .val (.long v5), .second, .val (.long v7), .second, .val (.long v9), .second, .val (.ref b128), .val (.int v10), .val (.ref b201_0), .val (.int (0 : Int32)), .val (.int (1 : Int32))] [(.ref b105), (.ref b105)])) rfl (by rw [hml]; rfl) (Steps.refl _) (argsL := [(.ref b105)]) (rest := []) (lenOf pd6 rfl) rfl (by show 2 * 0 + _ ≤ _; exact Nat.le_of_eq rfl) (hb hby at_269) (fun _ _ => ⟨rfl, e214, (by decide : 2 + 0 ≤ _), (by decide : 6 + 0 ≤ _)⟩)
          dsimp only [Pt.U, Pt.locs, Pt.cells, Pt.slots] at X215 l215 y215 z215 st215 hQ215
          subst l215 y215 z215
          obtain ⟨rfl, N215q, e215⟩ := hQ215
          have N215 := Fr.app N214 N215q
          obtain ⟨v23, hv23⟩ : ∃ z : Int32, z = (if (own_r3j q0 q0 q1 q1 q2 q2) = (0 : Int32) then (0 : Int32) else (1 : Int32)) := ⟨_, rfl⟩
          obtain ⟨T218, lc218, X218, N218, e218, st218⟩ := own_mrg (n0 := n0) (h := T201.heap) (g := (mkF m 272 #[.val (.long q0), .second, .val (.long q1), .second, .val (.long q2), .second, .val (.long q3), .second, .val (.int p4), .val (.int v2), .val (.ref b105), .val (.long q0), .second, .val (.long q1), .second, .val (.long q2), .second, .val (.long v5), .second, .val (.long v7), .second, .val (.long v9), .second, .val (.ref b128), .val (.int v10), .val (.ref b201_0), .val (.int (0 : Int32)), .val (.int (1 : Int32))] [(.int (own_r3j q0 q0 q1 q1 q2 q2))])) (g' := (mkF m 280 #[.val (.long q0), .second, .val (.long q1), .second, .val (.long q2), .second, .val (.long q3), .second, .val (.int p4), .val (.int v2), .val (.ref b105), .val (.long q0), .second, .val (.long q1), .second, .val (.long q2), .second, .val (.long v5), .second, .val (.long v7), .second, .val (.long v9), .second, .val (.ref b128), .val (.int v10), .val (.ref b201_0), .val (.int (0 : Int32)), .val (.int (1 : Int32))] [(.int v23)])) X215 (by
            by_cases hc272_22 : (own_r3j q0 q0 q1 q1 q2 q2) = (0 : Int32)
            · have hgo216 : ∀ t, Steps p.tables e below (T215.setTop (mkF m 280 #[.val (.long q0), .second, .val (.long q1), .second, .val (.long q2), .second, .val (.long q3), .second, .val (.int p4), .val (.int v2), .val (.ref b105), .val (.long q0), .second, .val (.long q1), .second, .val (.long q2), .second, .val (.long v5), .second, .val (.long v7), .second, .val (.long v9), .second, .val (.ref b128), .val (.int v10), .val (.ref b201_0), .val (.int (0 : Int32)), .val (.int (1 : Int32))] [(.int (0 : Int32))])) t → Steps p.tables e below (T215.setTop (mkF m 272 #[.val (.long q0), .second, .val (.long q1), .second, .val (.long q2), .second, .val (.long q3), .second, .val (.int p4), .val (.int v2), .val (.ref b105), .val (.long q0), .second, .val (.long q1), .second, .val (.long q2), .second, .val (.long v5), .second, .val (.long v7), .second, .val (.long v9), .second, .val (.ref b128), .val (.int v10), .val (.ref b201_0), .val (.int (0 : Int32)), .val (.int (1 : Int32))] [(.int (own_r3j q0 q0 q1 q1 q2 q2))])) t := by
                intro t kt
                show Steps p.tables e below (T215.setTop (mkF m 272 #[.val (.long q0), .second, .val (.long q1), .second, .val (.long q2), .second, .val (.long q3), .second, .val (.int p4), .val (.int v2), .val (.ref b105), .val (.long q0), .second, .val (.long q1), .second, .val (.long q2), .second, .val (.long v5), .second, .val (.long v7), .second, .val (.long v9), .second, .val (.ref b128), .val (.int v10), .val (.ref b201_0), .val (.int (0 : Int32)), .val (.int (1 : Int32))] [(.int (own_r3j q0 q0 q1 q1 q2 q2))])) _
                refine XS.ifYes X215.here hx rfl (pc0 := 272) (pc' := 279) rfl (hb hby at_272) rfl ((if0 _ _).trans (teq hc272_22).1) (by decide) (by decide) ?_
                show Steps p.tables e below (T215.setTop (mkF m 279 #[.val (.long q0), .second, .val (.long q1), .second, .val (.long q2), .second, .val (.long q3), .second, .val (.int p4), .val (.int v2), .val (.ref b105), .val (.long q0), .second, .val (.long q1), .second, .val (.long q2), .second, .val (.long v5), .second, .val (.long v7), .second, .val (.long v9), .second, .val (.ref b128), .val (.int v10), .val (.ref b201_0), .val (.int (0 : Int32)), .val (.int (1 : Int32))] [])) _
                refine XS.iconst X215.here hx rfl (hb hby at_279) ?_
                exact kt
              refine own_arm hgo216 ?_
              exact own_armEnd X215 N215 e215 (by rw [hv23.trans (if_pos hc272_22)])
            · have hgo217 : ∀ t, Steps p.tables e below (T215.setTop (mkF m 280 #[.val (.long q0), .second, .val (.long q1), .second, .val (.long q2), .second, .val (.long q3), .second, .val (.int p4), .val (.int v2), .val (.ref b105), .val (.long q0), .second, .val (.long q1), .second, .val (.long q2), .second, .val (.long v5), .second, .val (.long v7), .second, .val (.long v9), .second, .val (.ref b128), .val (.int v10), .val (.ref b201_0), .val (.int (0 : Int32)), .val (.int (1 : Int32))] [(.int (1 : Int32))])) t → Steps p.tables e below (T215.setTop (mkF m 272 #[.val (.long q0), .second, .val (.long q1), .second, .val (.long q2), .second, .val (.long q3), .second, .val (.int p4), .val (.int v2), .val (.ref b105), .val (.long q0), .second, .val (.long q1), .second, .val (.long q2), .second, .val (.long v5), .second, .val (.long v7), .second, .val (.long v9), .second, .val (.ref b128), .val (.int v10), .val (.ref b201_0), .val (.int (0 : Int32)), .val (.int (1 : Int32))] [(.int (own_r3j q0 q0 q1 q1 q2 q2))])) t := by
                intro t kt
                show Steps p.tables e below (T215.setTop (mkF m 272 #[.val (.long q0), .second, .val (.long q1), .second, .val (.long q2), .second, .val (.long q3), .second, .val (.int p4), .val (.int v2), .val (.ref b105), .val (.long q0), .second, .val (.long q1), .second, .val (.long q2), .second, .val (.long v5), .second, .val (.long v7), .second, .val (.long v9), .second, .val (.ref b128), .val (.int v10), .val (.ref b201_0), .val (.int (0 : Int32)), .val (.int (1 : Int32))] [(.int (own_r3j q0 q0 q1 q1 q2 q2))])) _
                refine XS.ifNo X215.here hx rfl (hb hby at_272) rfl ((if0 _ _).trans (feq hc272_22).1) ?_
                show Steps p.tables e below (T215.setTop (mkF m 275 #[.val (.long q0), .second, .val (.long q1), .second, .val (.long q2), .second, .val (.long q3), .second, .val (.int p4), .val (.int v2), .val (.ref b105), .val (.long q0), .second, .val (.long q1), .second, .val (.long q2), .second, .val (.long v5), .second, .val (.long v7), .second, .val (.long v9), .second, .val (.ref b128), .val (.int v10), .val (.ref b201_0), .val (.int (0 : Int32)), .val (.int (1 : Int32))] [])) _
                refine XS.iconst X215.here hx rfl (hb hby at_275) ?_
                show Steps p.tables e below (T215.setTop (mkF m 276 #[.val (.long q0), .second, .val (.long q1), .second, .val (.long q2), .second, .val (.long q3), .second, .val (.int p4), .val (.int v2), .val (.ref b105), .val (.long q0), .second, .val (.long q1), .second, .val (.long q2), .second, .val (.long v5), .second, .val (.long v7), .second, .val (.long v9), .second, .val (.ref b128), .val (.int v10), .val (.ref b201_0), .val (.int (0 : Int32)), .val (.int (1 : Int32))] [(.int (1 : Int32))])) _
                refine XS.goto X215.here hx rfl (pc0 := 276) (pc' := 280) rfl (hb hby at_276) (by decide) (by decide) ?_
                exact kt
              refine own_arm hgo217 ?_
              exact own_armEnd X215 N215 e215 (by rw [hv23.trans (if_neg hc272_22)]))
          have hgo219 : ∀ t, Steps p.tables e below (T218.setTop (mkF m 280 #[.val (.long q0), .second, .val (.long q1), .second, .val (.long q2), .second, .val (.long q3), .second, .val (.int p4), .val (.int v2), .val (.ref b105), .val (.long q0), .second, .val (.long q1), .second, .val (.long q2), .second, .val (.long v5), .second, .val (.long v7), .second, .val (.long v9), .second, .val (.ref b128), .val (.int v10), .val (.ref b201_0), .val (.int (0 : Int32)), .val (.int (1 : Int32))] [(.int v23)])) t → Steps p.tables e below (T140.setTop (mkF m 177 #[.val (.long q0), .second, .val (.long q1), .second, .val (.long q2), .second, .val (.long q3), .second, .val (.int p4), .val (.int v2), .val (.ref b105), .val (.long q0), .second, .val (.long q1), .second, .val (.long q2), .second, .val (.long v5), .second, .val (.long v7), .second, .val (.long v9), .second, .val (.ref b128), .val (.int v10), .unset, .unset, .unset] [(.long q0)])) t := by
            intro t kt
            show Steps p.tables e below (T140.setTop (mkF m 177 #[.val (.long q0), .second, .val (.long q1), .second, .val (.long q2), .second, .val (.long q3), .second, .val (.int p4), .val (.int v2), .val (.ref b105), .val (.long q0), .second, .val (.long q1), .second, .val (.long q2), .second, .val (.long v5), .second, .val (.long v7), .second, .val (.long v9), .second, .val (.ref b128), .val (.int v10), .unset, .unset, .unset] [(.long q0)])) _
            refine st201 _ ?_
            show Steps p.tables e below (T201.setTop (mkF m 180 #[.val (.long q0), .second, .val (.long q1), .second, .val (.long q2), .second, .val (.long q3), .second, .val (.int p4), .val (.int v2), .val (.ref b105), .val (.long q0), .second, .val (.long q1), .second, .val (.long q2), .second, .val (.long v5), .second, .val (.long v7), .second, .val (.long v9), .second, .val (.ref b128), .val (.int v10), .unset, .unset, .unset] [(.ref b201_0)])) _
            refine XS.astore X201.here hx rfl (hb hby at_180) rfl rfl (l' := #[.val (.long q0), .second, .val (.long q1), .second, .val (.long q2), .second, .val (.long q3), .second, .val (.int p4), .val (.int v2), .val (.ref b105), .val (.long q0), .second, .val (.long q1), .second, .val (.long q2), .second, .val (.long v5), .second, .val (.long v7), .second, .val (.long v9), .second, .val (.ref b128), .val (.int v10), .val (.ref b201_0), .unset, .unset]) rfl ?_
            show Steps p.tables e below (T201.setTop (mkF m 182 #[.val (.long q0), .second, .val (.long q1), .second, .val (.long q2), .second, .val (.long q3), .second, .val (.int p4), .val (.int v2), .val (.ref b105), .val (.long q0), .second, .val (.long q1), .second, .val (.long q2), .second, .val (.long v5), .second, .val (.long v7), .second, .val (.long v9), .second, .val (.ref b128), .val (.int v10), .val (.ref b201_0), .unset, .unset] [])) _
            refine XS.iconst X201.here hx rfl (hb hby at_182) ?_
            show Steps p.tables e below (T201.setTop (mkF m 183 #[.val (.long q0), .second, .val (.long q1), .second, .val (.long q2), .second, .val (.long q3), .second, .val (.int p4), .val (.int v2), .val (.ref b105), .val (.long q0), .second, .val (.long q1), .second, .val (.long q2), .second, .val (.long v5), .second, .val (.long v7), .second, .val (.long v9), .second, .val (.ref b128), .val (.int v10), .val (.ref b201_0), .unset, .unset] [(.int (0 : Int32))])) _
            refine XS.istore X201.here hx rfl (hb hby at_183) rfl (l' := #[.val (.long q0), .second, .val (.long q1), .second, .val (.long q2), .second, .val (.long q3), .second, .val (.int p4), .val (.int v2), .val (.ref b105), .val (.long q0), .second, .val (.long q1), .second, .val (.long q2), .second, .val (.long v5), .second, .val (.long v7), .second, .val (.long v9), .second, .val (.ref b128), .val (.int v10), .val (.ref b201_0), .val (.int (0 : Int32)), .unset]) rfl ?_
            show Steps p.tables e below (T201.setTop (mkF m 185 #[.val (.long q0), .second, .val (.long q1), .second, .val (.long q2), .second, .val (.long q3), .second, .val (.int p4), .val (.int v2), .val (.ref b105), .val (.long q0), .second, .val (.long q1), .second, .val (.long q2), .second, .val (.long v5), .second, .val (.long v7), .second, .val (.long v9), .second, .val (.ref b128), .val (.int v10), .val (.ref b201_0), .val (.int (0 : Int32)), .unset] [])) _
            refine XS.goto X201.here hx rfl (pc0 := 185) (pc' := 223) rfl (hb hby at_185) (by decide) (by decide) ?_
            show Steps p.tables e below (T201.setTop (mkF m 223 #[.val (.long q0), .second, .val (.long q1), .second, .val (.long q2), .second, .val (.long q3), .second, .val (.int p4), .val (.int v2), .val (.ref b105), .val (.long q0), .second, .val (.long q1), .second, .val (.long q2), .second, .val (.long v5), .second, .val (.long v7), .second, .val (.long v9), .second, .val (.ref b128), .val (.int v10), .val (.ref b201_0), .val (.int (0 : Int32)), .unset] [])) _
            refine XS.iload X201.here hx rfl (hb hby at_223) rfl ?_
            show Steps p.tables e below (T201.setTop (mkF m 225 #[.val (.long q0), .second, .val (.long q1), .second, .val (.long q2), .second, .val (.long q3), .second, .val (.int p4), .val (.int v2), .val (.ref b105), .val (.long q0), .second, .val (.long q1), .second, .val (.long q2), .second, .val (.long v5), .second, .val (.long v7), .second, .val (.long v9), .second, .val (.ref b128), .val (.int v10), .val (.ref b201_0), .val (.int (0 : Int32)), .unset] [(.int v10)])) _
            refine XS.iconst X201.here hx rfl (hb hby at_225) ?_
            show Steps p.tables e below (T201.setTop (mkF m 226 #[.val (.long q0), .second, .val (.long q1), .second, .val (.long q2), .second, .val (.long q3), .second, .val (.int p4), .val (.int v2), .val (.ref b105), .val (.long q0), .second, .val (.long q1), .second, .val (.long q2), .second, .val (.long v5), .second, .val (.long v7), .second, .val (.long v9), .second, .val (.ref b128), .val (.int v10), .val (.ref b201_0), .val (.int (0 : Int32)), .unset] [(.int (2 : Int32)), (.int v10)])) _
            refine XS.icmpYes X201.here hx rfl (pc0 := 226) (pc' := 241) rfl (hb hby at_226) rfl (tlt (by have y0 := hc172_15; simp only [Int32.lt_iff_toInt_lt, ← Int32.toInt_inj, Int32.reduceToInt] at y0 ⊢; omega : v10 < (2 : Int32))).1 (by decide) (by decide) ?_
            show Steps p.tables e below (T201.setTop (mkF m 241 #[.val (.long q0), .second, .val (.long q1), .second, .val (.long q2), .second, .val (.long q3), .second, .val (.int p4), .val (.int v2), .val (.ref b105), .val (.long q0), .second, .val (.long q1), .second, .val (.long q2), .second, .val (.long v5), .second, .val (.long v7), .second, .val (.long v9), .second, .val (.ref b128), .val (.int v10), .val (.ref b201_0), .val (.int (0 : Int32)), .unset] [])) _
            refine XS.iconst X201.here hx rfl (hb hby at_241) ?_
            show Steps p.tables e below (T201.setTop (mkF m 242 #[.val (.long q0), .second, .val (.long q1), .second, .val (.long q2), .second, .val (.long q3), .second, .val (.int p4), .val (.int v2), .val (.ref b105), .val (.long q0), .second, .val (.long q1), .second, .val (.long q2), .second, .val (.long v5), .second, .val (.long v7), .second, .val (.long v9), .second, .val (.ref b128), .val (.int v10), .val (.ref b201_0), .val (.int (0 : Int32)), .unset] [(.int (1 : Int32))])) _
            refine XS.goto X201.here hx rfl (pc0 := 242) (pc' := 246) rfl (hb hby at_242) (by decide) (by decide) ?_
            show Steps p.tables e below (T201.setTop (mkF m 246 #[.val (.long q0), .second, .val (.long q1), .second, .val (.long q2), .second, .val (.long q3), .second, .val (.int p4), .val (.int v2), .val (.ref b105), .val (.long q0), .second, .val (.long q1), .second, .val (.long q2), .second, .val (.long v5), .second, .val (.long v7), .second, .val (.long v9), .second, .val (.ref b128), .val (.int v10), .val (.ref b201_0), .val (.int (0 : Int32)), .unset] [(.int (1 : Int32))])) _
            refine XS.istore X201.here hx rfl (hb hby at_246) rfl (l' := #[.val (.long q0), .second, .val (.long q1), .second, .val (.long q2), .second, .val (.long q3), .second, .val (.int p4), .val (.int v2), .val (.ref b105), .val (.long q0), .second, .val (.long q1), .second, .val (.long q2), .second, .val (.long v5), .second, .val (.long v7), .second, .val (.long v9), .second, .val (.ref b128), .val (.int v10), .val (.ref b201_0), .val (.int (0 : Int32)), .val (.int (1 : Int32))]) rfl ?_
            show Steps p.tables e below (T201.setTop (mkF m 248 #[.val (.long q0), .second, .val (.long q1), .second, .val (.long q2), .second, .val (.long q3), .second, .val (.int p4), .val (.int v2), .val (.ref b105), .val (.long q0), .second, .val (.long q1), .second, .val (.long q2), .second, .val (.long v5), .second, .val (.long v7), .second, .val (.long v9), .second, .val (.ref b128), .val (.int v10), .val (.ref b201_0), .val (.int (0 : Int32)), .val (.int (1 : Int32))] [])) _
            refine XS.aload X201.here hx rfl (hb hby at_248) rfl rfl ?_
            show Steps p.tables e below (T201.setTop (mkF m 250 #[.val (.long q0), .second, .val (.long q1), .second, .val (.long q2), .second, .val (.long q3), .second, .val (.int p4), .val (.int v2), .val (.ref b105), .val (.long q0), .second, .val (.long q1), .second, .val (.long q2), .second, .val (.long v5), .second, .val (.long v7), .second, .val (.long v9), .second, .val (.ref b128), .val (.int v10), .val (.ref b201_0), .val (.int (0 : Int32)), .val (.int (1 : Int32))] [(.ref b105)])) _
            refine XS.aload X201.here hx rfl (hb hby at_250) rfl rfl ?_
            show Steps p.tables e below (T201.setTop (mkF m 252 #[.val (.long q0), .second, .val (.long q1), .second, .val (.long q2), .second, .val (.long q3), .second, .val (.int p4), .val (.int v2), .val (.ref b105), .val (.long q0), .second, .val (.long q1), .second, .val (.long q2), .second, .val (.long v5), .second, .val (.long v7), .second, .val (.long v9), .second, .val (.ref b128), .val (.int v10), .val (.ref b201_0), .val (.int (0 : Int32)), .val (.int (1 : Int32))] [(.ref b201_0), (.ref b105)])) _
            refine st214.trans ?_
            show Steps p.tables e below (T214.setTop (mkF m 255 #[.val (.long q0), .second, .val (.long q1), .second, .val (.long q2), .second, .val (.long q3), .second, .val (.int p4), .val (.int v2), .val (.ref b105), .val (.long q0), .second, .val (.long q1), .second, .val (.long q2), .second, .val (.long v5), .second, .val (.long v7), .second, .val (.long v9), .second, .val (.ref b128), .val (.int v10), .val (.ref b201_0), .val (.int (0 : Int32)), .val (.int (1 : Int32))] [(.int (0 : Int32))])) _
            refine XS.iload X214.here hx rfl (hb hby at_255) rfl ?_
            show Steps p.tables e below (T214.setTop (mkF m 257 #[.val (.long q0), .second, .val (.long q1), .second, .val (.long q2), .second, .val (.long q3), .second, .val (.int p4), .val (.int v2), .val (.ref b105), .val (.long q0), .second, .val (.long q1), .second, .val (.long q2), .second, .val (.long v5), .second, .val (.long v7), .second, .val (.long v9), .second, .val (.ref b128), .val (.int v10), .val (.ref b201_0), .val (.int (0 : Int32)), .val (.int (1 : Int32))] [(.int (0 : Int32)), (.int (0 : Int32))])) _
            refine XS.icmpNo X214.here hx rfl (hb hby at_257) rfl (teq (by decide : (0 : Int32) = (0 : Int32))).2 ?_
            show Steps p.tables e below (T214.setTop (mkF m 260 #[.val (.long q0), .second, .val (.long q1), .second, .val (.long q2), .second, .val (.long q3), .second, .val (.int p4), .val (.int v2), .val (.ref b105), .val (.long q0), .second, .val (.long q1), .second, .val (.long q2), .second, .val (.long v5), .second, .val (.long v7), .second, .val (.long v9), .second, .val (.ref b128), .val (.int v10), .val (.ref b201_0), .val (.int (0 : Int32)), .val (.int (1 : Int32))] [])) _
            refine XS.iload X214.here hx rfl (hb hby at_260) rfl ?_
            show Steps p.tables e below (T214.setTop (mkF m 262 #[.val (.long q0), .second, .val (.long q1), .second, .val (.long q2), .second, .val (.long q3), .second, .val (.int p4), .val (.int v2), .val (.ref b105), .val (.long q0), .second, .val (.long q1), .second, .val (.long q2), .second, .val (.long v5), .second, .val (.long v7), .second, .val (.long v9), .second, .val (.ref b128), .val (.int v10), .val (.ref b201_0), .val (.int (0 : Int32)), .val (.int (1 : Int32))] [(.int (1 : Int32))])) _
            refine XS.ifNo X214.here hx rfl (hb hby at_262) rfl ((if0 _ _).trans (feq (by decide : ¬ ((1 : Int32) = (0 : Int32)))).1) ?_
            show Steps p.tables e below (T214.setTop (mkF m 265 #[.val (.long q0), .second, .val (.long q1), .second, .val (.long q2), .second, .val (.long q3), .second, .val (.int p4), .val (.int v2), .val (.ref b105), .val (.long q0), .second, .val (.long q1), .second, .val (.long q2), .second, .val (.long v5), .second, .val (.long v7), .second, .val (.long v9), .second, .val (.ref b128), .val (.int v10), .val (.ref b201_0), .val (.int (0 : Int32)), .val (.int (1 : Int32))] [])) _
            refine XS.aload X214.here hx rfl (hb hby at_265) rfl rfl ?_
            show Steps p.tables e below (T214.setTop (mkF m 267 #[.val (.long q0), .second, .val (.long q1), .second, .val (.long q2), .second, .val (.long q3), .second, .val (.int p4), .val (.int v2), .val (.ref b105), .val (.long q0), .second, .val (.long q1), .second, .val (.long q2), .second, .val (.long v5), .second, .val (.long v7), .second, .val (.long v9), .second, .val (.ref b128), .val (.int v10), .val (.ref b201_0), .val (.int (0 : Int32)), .val (.int (1 : Int32))] [(.ref b105)])) _
            refine XS.aload X214.here hx rfl (hb hby at_267) rfl rfl ?_
            show Steps p.tables e below (T214.setTop (mkF m 269 #[.val (.long q0), .second, .val (.long q1), .second, .val (.long q2), .second, .val (.long q3), .second, .val (.int p4), .val (.int v2), .val (.ref b105), .val (.long q0), .second, .val (.long q1), .second, .val (.long q2), .second, .val (.long v5), .second, .val (.long v7), .second, .val (.long v9), .second, .val (.ref b128), .val (.int v10), .val (.ref b201_0), .val (.int (0 : Int32)), .val (.int (1 : Int32))] [(.ref b105), (.ref b105)])) _
            refine st215.trans ?_
            show Steps p.tables e below (T215.setTop (mkF m 272 #[.val (.long q0), .second, .val (.long q1), .second, .val (.long q2), .second, .val (.long q3), .second, .val (.int p4), .val (.int v2), .val (.ref b105), .val (.long q0), .second, .val (.long q1), .second, .val (.long q2), .second, .val (.long v5), .second, .val (.long v7), .second, .val (.long v9), .second, .val (.ref b128), .val (.int v10), .val (.ref b201_0), .val (.int (0 : Int32)), .val (.int (1 : Int32))] [(.int (own_r3j q0 q0 q1 q1 q2 q2))])) _
            refine st218 _ ?_
            exact kt
          refine own_go hgo219 ?_
          have hz220 : v23 = 1 := own_leaf3 (q0 := q0) (q1 := q1) (q2 := q2) (q3 := q3) (p4 := p4) (ulc := ulc) hv2 hv5 hv7 hv9 hv10 hv23 hc17_3 hc157_11 hc172_15 hs177_16 hs177_19
          exact own_retZ X218 hx Bd.returns Bd.notSynchronized (hb hby at_280) (by decide) (by decide) (Or.inr hz220) ⟨by rw [hz220], N218⟩
      · obtain ⟨v27, hv27⟩ : ∃ z : Int32, z = (if v9 = q2 then (1 : Int32) else (0 : Int32)) := ⟨_, rfl⟩
        obtain ⟨v28, hv28⟩ : ∃ z : Int32, z = (if v7 = q1 then v27 else (0 : Int32)) := ⟨_, rfl⟩
        obtain ⟨v29, hv29⟩ : ∃ z : Int32, z = (if v5 = q0 then v28 else (0 : Int32)) := ⟨_, rfl⟩
        obtain ⟨T229, lc229, X229, N229, e229, st229⟩ := own_mrg (n0 := n0) (h := T140.heap) (g := (mkF m 197 #[.val (.long q0), .second, .val (.long q1), .second, .val (.long q2), .second, .val (.long q3), .second, .val (.int p4), .val (.int v2), .val (.ref b105), .val (.long q0), .second, .val (.long q1), .second, .val (.long q2), .second, .val (.long v5), .second, .val (.long v7), .second, .val (.long v9), .second, .val (.ref b128), .val (.int v10), .val (.ref b128), .unset, .unset] [(.int (lcmpW v5 q0))])) (g' := (mkF m 221 #[.val (.long q0), .second, .val (.long q1), .second, .val (.long q2), .second, .val (.long q3), .second, .val (.int p4), .val (.int v2), .val (.ref b105), .val (.long q0), .second, .val (.long q1), .second, .val (.long q2), .second, .val (.long v5), .second, .val (.long v7), .second, .val (.long v9), .second, .val (.ref b128), .val (.int v10), .val (.ref b128), .unset, .unset] [(.int v29)])) X140 (by
          by_cases hc197_24 : v5 = q0
          · obtain ⟨T226, lc226, X226, N226, e226, st226⟩ := own_mrg (n0 := n0) (h := T140.heap) (g := (mkF m 205 #[.val (.long q0), .second, .val (.long q1), .second, .val (.long q2), .second, .val (.long q3), .second, .val (.int p4), .val (.int v2), .val (.ref b105), .val (.long q0), .second, .val (.long q1), .second, .val (.long q2), .second, .val (.long v5), .second, .val (.long v7), .second, .val (.long v9), .second, .val (.ref b128), .val (.int v10), .val (.ref b128), .unset, .unset] [(.int (lcmpW v7 q1))])) (g' := (mkF m 221 #[.val (.long q0), .second, .val (.long q1), .second, .val (.long q2), .second, .val (.long q3), .second, .val (.int p4), .val (.int v2), .val (.ref b105), .val (.long q0), .second, .val (.long q1), .second, .val (.long q2), .second, .val (.long v5), .second, .val (.long v7), .second, .val (.long v9), .second, .val (.ref b128), .val (.int v10), .val (.ref b128), .unset, .unset] [(.int v28)])) X140 (by
              by_cases hc205_25 : v7 = q1
              · obtain ⟨T223, lc223, X223, N223, e223, st223⟩ := own_mrg (n0 := n0) (h := T140.heap) (g := (mkF m 213 #[.val (.long q0), .second, .val (.long q1), .second, .val (.long q2), .second, .val (.long q3), .second, .val (.int p4), .val (.int v2), .val (.ref b105), .val (.long q0), .second, .val (.long q1), .second, .val (.long q2), .second, .val (.long v5), .second, .val (.long v7), .second, .val (.long v9), .second, .val (.ref b128), .val (.int v10), .val (.ref b128), .unset, .unset] [(.int (lcmpW v9 q2))])) (g' := (mkF m 221 #[.val (.long q0), .second, .val (.long q1), .second, .val (.long q2), .second, .val (.long q3), .second, .val (.int p4), .val (.int v2), .val (.ref b105), .val (.long q0), .second, .val (.long q1), .second, .val (.long q2), .second, .val (.long v5), .second, .val (.long v7), .second, .val (.long v9), .second, .val (.ref b128), .val (.int v10), .val (.ref b128), .unset, .unset] [(.int v27)])) X140 (by
                  by_cases hc213_26 : v9 = q2
                  · have hgo221 : ∀ t, Steps p.tables e below (T140.setTop (mkF m 221 #[.val (.long q0), .second, .val (.long q1), .second, .val (.long q2), .second, .val (.long q3), .second, .val (.int p4), .val (.int v2), .val (.ref b105), .val (.long q0), .second, .val (.long q1), .second, .val (.long q2), .second, .val (.long v5), .second, .val (.long v7), .second, .val (.long v9), .second, .val (.ref b128), .val (.int v10), .val (.ref b128), .unset, .unset] [(.int (1 : Int32))])) t → Steps p.tables e below (T140.setTop (mkF m 213 #[.val (.long q0), .second, .val (.long q1), .second, .val (.long q2), .second, .val (.long q3), .second, .val (.int p4), .val (.int v2), .val (.ref b105), .val (.long q0), .second, .val (.long q1), .second, .val (.long q2), .second, .val (.long v5), .second, .val (.long v7), .second, .val (.long v9), .second, .val (.ref b128), .val (.int v10), .val (.ref b128), .unset, .unset] [(.int (lcmpW v9 q2))])) t := by
                      intro t kt
                      show Steps p.tables e below (T140.setTop (mkF m 213 #[.val (.long q0), .second, .val (.long q1), .second, .val (.long q2), .second, .val (.long q3), .second, .val (.int p4), .val (.int v2), .val (.ref b105), .val (.long q0), .second, .val (.long q1), .second, .val (.long q2), .second, .val (.long v5), .second, .val (.long v7), .second, .val (.long v9), .second, .val (.ref b128), .val (.int v10), .val (.ref b128), .unset, .unset] [(.int (lcmpW v9 q2))])) _
                      refine XS.ifNo X140.here hx rfl (hb hby at_213) rfl ((if0 _ _).trans (teq (own_lc_eq hc213_26)).2) ?_
                      show Steps p.tables e below (T140.setTop (mkF m 216 #[.val (.long q0), .second, .val (.long q1), .second, .val (.long q2), .second, .val (.long q3), .second, .val (.int p4), .val (.int v2), .val (.ref b105), .val (.long q0), .second, .val (.long q1), .second, .val (.long q2), .second, .val (.long v5), .second, .val (.long v7), .second, .val (.long v9), .second, .val (.ref b128), .val (.int v10), .val (.ref b128), .unset, .unset] [])) _
                      refine XS.iconst X140.here hx rfl (hb hby at_216) ?_
                      show Steps p.tables e below (T140.setTop (mkF m 217 #[.val (.long q0), .second, .val (.long q1), .second, .val (.long q2), .second, .val (.long q3), .second, .val (.int p4), .val (.int v2), .val (.ref b105), .val (.long q0), .second, .val (.long q1), .second, .val (.long q2), .second, .val (.long v5), .second, .val (.long v7), .second, .val (.long v9), .second, .val (.ref b128), .val (.int v10), .val (.ref b128), .unset, .unset] [(.int (1 : Int32))])) _
                      refine XS.goto X140.here hx rfl (pc0 := 217) (pc' := 221) rfl (hb hby at_217) (by decide) (by decide) ?_
                      exact kt
                    refine own_arm hgo221 ?_
                    exact own_armEnd X140 N140 (rfl : T140.heap = T140.heap) (by rw [hv27.trans (if_pos hc213_26)])
                  · have hgo222 : ∀ t, Steps p.tables e below (T140.setTop (mkF m 221 #[.val (.long q0), .second, .val (.long q1), .second, .val (.long q2), .second, .val (.long q3), .second, .val (.int p4), .val (.int v2), .val (.ref b105), .val (.long q0), .second, .val (.long q1), .second, .val (.long q2), .second, .val (.long v5), .second, .val (.long v7), .second, .val (.long v9), .second, .val (.ref b128), .val (.int v10), .val (.ref b128), .unset, .unset] [(.int (0 : Int32))])) t → Steps p.tables e below (T140.setTop (mkF m 213 #[.val (.long q0), .second, .val (.long q1), .second, .val (.long q2), .second, .val (.long q3), .second, .val (.int p4), .val (.int v2), .val (.ref b105), .val (.long q0), .second, .val (.long q1), .second, .val (.long q2), .second, .val (.long v5), .second, .val (.long v7), .second, .val (.long v9), .second, .val (.ref b128), .val (.int v10), .val (.ref b128), .unset, .unset] [(.int (lcmpW v9 q2))])) t := by
                      intro t kt
                      show Steps p.tables e below (T140.setTop (mkF m 213 #[.val (.long q0), .second, .val (.long q1), .second, .val (.long q2), .second, .val (.long q3), .second, .val (.int p4), .val (.int v2), .val (.ref b105), .val (.long q0), .second, .val (.long q1), .second, .val (.long q2), .second, .val (.long v5), .second, .val (.long v7), .second, .val (.long v9), .second, .val (.ref b128), .val (.int v10), .val (.ref b128), .unset, .unset] [(.int (lcmpW v9 q2))])) _
                      refine XS.ifYes X140.here hx rfl (pc0 := 213) (pc' := 220) rfl (hb hby at_213) rfl ((if0 _ _).trans (feq (own_lc_neq hc213_26)).2) (by decide) (by decide) ?_
                      show Steps p.tables e below (T140.setTop (mkF m 220 #[.val (.long q0), .second, .val (.long q1), .second, .val (.long q2), .second, .val (.long q3), .second, .val (.int p4), .val (.int v2), .val (.ref b105), .val (.long q0), .second, .val (.long q1), .second, .val (.long q2), .second, .val (.long v5), .second, .val (.long v7), .second, .val (.long v9), .second, .val (.ref b128), .val (.int v10), .val (.ref b128), .unset, .unset] [])) _
                      refine XS.iconst X140.here hx rfl (hb hby at_220) ?_
                      exact kt
                    refine own_arm hgo222 ?_
                    exact own_armEnd X140 N140 (rfl : T140.heap = T140.heap) (by rw [hv27.trans (if_neg hc213_26)]))
                have hgo224 : ∀ t, Steps p.tables e below (T223.setTop (mkF m 221 #[.val (.long q0), .second, .val (.long q1), .second, .val (.long q2), .second, .val (.long q3), .second, .val (.int p4), .val (.int v2), .val (.ref b105), .val (.long q0), .second, .val (.long q1), .second, .val (.long q2), .second, .val (.long v5), .second, .val (.long v7), .second, .val (.long v9), .second, .val (.ref b128), .val (.int v10), .val (.ref b128), .unset, .unset] [(.int v27)])) t → Steps p.tables e below (T140.setTop (mkF m 205 #[.val (.long q0), .second, .val (.long q1), .second, .val (.long q2), .second, .val (.long q3), .second, .val (.int p4), .val (.int v2), .val (.ref b105), .val (.long q0), .second, .val (.long q1), .second, .val (.long q2), .second, .val (.long v5), .second, .val (.long v7), .second, .val (.long v9), .second, .val (.ref b128), .val (.int v10), .val (.ref b128), .unset, .unset] [(.int (lcmpW v7 q1))])) t := by
                  intro t kt
                  show Steps p.tables e below (T140.setTop (mkF m 205 #[.val (.long q0), .second, .val (.long q1), .second, .val (.long q2), .second, .val (.long q3), .second, .val (.int p4), .val (.int v2), .val (.ref b105), .val (.long q0), .second, .val (.long q1), .second, .val (.long q2), .second, .val (.long v5), .second, .val (.long v7), .second, .val (.long v9), .second, .val (.ref b128), .val (.int v10), .val (.ref b128), .unset, .unset] [(.int (lcmpW v7 q1))])) _
                  refine XS.ifNo X140.here hx rfl (hb hby at_205) rfl ((if0 _ _).trans (teq (own_lc_eq hc205_25)).2) ?_
                  show Steps p.tables e below (T140.setTop (mkF m 208 #[.val (.long q0), .second, .val (.long q1), .second, .val (.long q2), .second, .val (.long q3), .second, .val (.int p4), .val (.int v2), .val (.ref b105), .val (.long q0), .second, .val (.long q1), .second, .val (.long q2), .second, .val (.long v5), .second, .val (.long v7), .second, .val (.long v9), .second, .val (.ref b128), .val (.int v10), .val (.ref b128), .unset, .unset] [])) _
                  refine XS.lload X140.here hx rfl (hb hby at_208) rfl ?_
                  show Steps p.tables e below (T140.setTop (mkF m 210 #[.val (.long q0), .second, .val (.long q1), .second, .val (.long q2), .second, .val (.long q3), .second, .val (.int p4), .val (.int v2), .val (.ref b105), .val (.long q0), .second, .val (.long q1), .second, .val (.long q2), .second, .val (.long v5), .second, .val (.long v7), .second, .val (.long v9), .second, .val (.ref b128), .val (.int v10), .val (.ref b128), .unset, .unset] [(.long v9)])) _
                  refine XS.lload X140.here hx rfl (hb hby at_210) rfl ?_
                  show Steps p.tables e below (T140.setTop (mkF m 212 #[.val (.long q0), .second, .val (.long q1), .second, .val (.long q2), .second, .val (.long q3), .second, .val (.int p4), .val (.int v2), .val (.ref b105), .val (.long q0), .second, .val (.long q1), .second, .val (.long q2), .second, .val (.long v5), .second, .val (.long v7), .second, .val (.long v9), .second, .val (.ref b128), .val (.int v10), .val (.ref b128), .unset, .unset] [(.long q2), (.long v9)])) _
                  refine XS.lcmp X140.here hx rfl (hb hby at_212) rfl ?_
                  show Steps p.tables e below (T140.setTop (mkF m 213 #[.val (.long q0), .second, .val (.long q1), .second, .val (.long q2), .second, .val (.long q3), .second, .val (.int p4), .val (.int v2), .val (.ref b105), .val (.long q0), .second, .val (.long q1), .second, .val (.long q2), .second, .val (.long v5), .second, .val (.long v7), .second, .val (.long v9), .second, .val (.ref b128), .val (.int v10), .val (.ref b128), .unset, .unset] [(.int (lcmpW v9 q2))])) _
                  refine st223 _ ?_
                  exact kt
                refine own_arm hgo224 ?_
                exact own_armEnd X223 N223 e223 (by rw [hv28.trans (if_pos hc205_25)])
              · have hgo225 : ∀ t, Steps p.tables e below (T140.setTop (mkF m 221 #[.val (.long q0), .second, .val (.long q1), .second, .val (.long q2), .second, .val (.long q3), .second, .val (.int p4), .val (.int v2), .val (.ref b105), .val (.long q0), .second, .val (.long q1), .second, .val (.long q2), .second, .val (.long v5), .second, .val (.long v7), .second, .val (.long v9), .second, .val (.ref b128), .val (.int v10), .val (.ref b128), .unset, .unset] [(.int (0 : Int32))])) t → Steps p.tables e below (T140.setTop (mkF m 205 #[.val (.long q0), .second, .val (.long q1), .second, .val (.long q2), .second, .val (.long q3), .second, .val (.int p4), .val (.int v2), .val (.ref b105), .val (.long q0), .second, .val (.long q1), .second, .val (.long q2), .second, .val (.long v5), .second, .val (.long v7), .second, .val (.long v9), .second, .val (.ref b128), .val (.int v10), .val (.ref b128), .unset, .unset] [(.int (lcmpW v7 q1))])) t := by
                  intro t kt
                  show Steps p.tables e below (T140.setTop (mkF m 205 #[.val (.long q0), .second, .val (.long q1), .second, .val (.long q2), .second, .val (.long q3), .second, .val (.int p4), .val (.int v2), .val (.ref b105), .val (.long q0), .second, .val (.long q1), .second, .val (.long q2), .second, .val (.long v5), .second, .val (.long v7), .second, .val (.long v9), .second, .val (.ref b128), .val (.int v10), .val (.ref b128), .unset, .unset] [(.int (lcmpW v7 q1))])) _
                  refine XS.ifYes X140.here hx rfl (pc0 := 205) (pc' := 220) rfl (hb hby at_205) rfl ((if0 _ _).trans (feq (own_lc_neq hc205_25)).2) (by decide) (by decide) ?_
                  show Steps p.tables e below (T140.setTop (mkF m 220 #[.val (.long q0), .second, .val (.long q1), .second, .val (.long q2), .second, .val (.long q3), .second, .val (.int p4), .val (.int v2), .val (.ref b105), .val (.long q0), .second, .val (.long q1), .second, .val (.long q2), .second, .val (.long v5), .second, .val (.long v7), .second, .val (.long v9), .second, .val (.ref b128), .val (.int v10), .val (.ref b128), .unset, .unset] [])) _
                  refine XS.iconst X140.here hx rfl (hb hby at_220) ?_
                  exact kt
                refine own_arm hgo225 ?_
                exact own_armEnd X140 N140 (rfl : T140.heap = T140.heap) (by rw [hv28.trans (if_neg hc205_25)]))
            have hgo227 : ∀ t, Steps p.tables e below (T226.setTop (mkF m 221 #[.val (.long q0), .second, .val (.long q1), .second, .val (.long q2), .second, .val (.long q3), .second, .val (.int p4), .val (.int v2), .val (.ref b105), .val (.long q0), .second, .val (.long q1), .second, .val (.long q2), .second, .val (.long v5), .second, .val (.long v7), .second, .val (.long v9), .second, .val (.ref b128), .val (.int v10), .val (.ref b128), .unset, .unset] [(.int v28)])) t → Steps p.tables e below (T140.setTop (mkF m 197 #[.val (.long q0), .second, .val (.long q1), .second, .val (.long q2), .second, .val (.long q3), .second, .val (.int p4), .val (.int v2), .val (.ref b105), .val (.long q0), .second, .val (.long q1), .second, .val (.long q2), .second, .val (.long v5), .second, .val (.long v7), .second, .val (.long v9), .second, .val (.ref b128), .val (.int v10), .val (.ref b128), .unset, .unset] [(.int (lcmpW v5 q0))])) t := by
              intro t kt
              show Steps p.tables e below (T140.setTop (mkF m 197 #[.val (.long q0), .second, .val (.long q1), .second, .val (.long q2), .second, .val (.long q3), .second, .val (.int p4), .val (.int v2), .val (.ref b105), .val (.long q0), .second, .val (.long q1), .second, .val (.long q2), .second, .val (.long v5), .second, .val (.long v7), .second, .val (.long v9), .second, .val (.ref b128), .val (.int v10), .val (.ref b128), .unset, .unset] [(.int (lcmpW v5 q0))])) _
              refine XS.ifNo X140.here hx rfl (hb hby at_197) rfl ((if0 _ _).trans (teq (own_lc_eq hc197_24)).2) ?_
              show Steps p.tables e below (T140.setTop (mkF m 200 #[.val (.long q0), .second, .val (.long q1), .second, .val (.long q2), .second, .val (.long q3), .second, .val (.int p4), .val (.int v2), .val (.ref b105), .val (.long q0), .second, .val (.long q1), .second, .val (.long q2), .second, .val (.long v5), .second, .val (.long v7), .second, .val (.long v9), .second, .val (.ref b128), .val (.int v10), .val (.ref b128), .unset, .unset] [])) _
              refine XS.lload X140.here hx rfl (hb hby at_200) rfl ?_
              show Steps p.tables e below (T140.setTop (mkF m 202 #[.val (.long q0), .second, .val (.long q1), .second, .val (.long q2), .second, .val (.long q3), .second, .val (.int p4), .val (.int v2), .val (.ref b105), .val (.long q0), .second, .val (.long q1), .second, .val (.long q2), .second, .val (.long v5), .second, .val (.long v7), .second, .val (.long v9), .second, .val (.ref b128), .val (.int v10), .val (.ref b128), .unset, .unset] [(.long v7)])) _
              refine XS.lload X140.here hx rfl (hb hby at_202) rfl ?_
              show Steps p.tables e below (T140.setTop (mkF m 204 #[.val (.long q0), .second, .val (.long q1), .second, .val (.long q2), .second, .val (.long q3), .second, .val (.int p4), .val (.int v2), .val (.ref b105), .val (.long q0), .second, .val (.long q1), .second, .val (.long q2), .second, .val (.long v5), .second, .val (.long v7), .second, .val (.long v9), .second, .val (.ref b128), .val (.int v10), .val (.ref b128), .unset, .unset] [(.long q1), (.long v7)])) _
              refine XS.lcmp X140.here hx rfl (hb hby at_204) rfl ?_
              show Steps p.tables e below (T140.setTop (mkF m 205 #[.val (.long q0), .second, .val (.long q1), .second, .val (.long q2), .second, .val (.long q3), .second, .val (.int p4), .val (.int v2), .val (.ref b105), .val (.long q0), .second, .val (.long q1), .second, .val (.long q2), .second, .val (.long v5), .second, .val (.long v7), .second, .val (.long v9), .second, .val (.ref b128), .val (.int v10), .val (.ref b128), .unset, .unset] [(.int (lcmpW v7 q1))])) _
              refine st226 _ ?_
              exact kt
            refine own_arm hgo227 ?_
            exact own_armEnd X226 N226 e226 (by rw [hv29.trans (if_pos hc197_24)])
          · have hgo228 : ∀ t, Steps p.tables e below (T140.setTop (mkF m 221 #[.val (.long q0), .second, .val (.long q1), .second, .val (.long q2), .second, .val (.long q3), .second, .val (.int p4), .val (.int v2), .val (.ref b105), .val (.long q0), .second, .val (.long q1), .second, .val (.long q2), .second, .val (.long v5), .second, .val (.long v7), .second, .val (.long v9), .second, .val (.ref b128), .val (.int v10), .val (.ref b128), .unset, .unset] [(.int (0 : Int32))])) t → Steps p.tables e below (T140.setTop (mkF m 197 #[.val (.long q0), .second, .val (.long q1), .second, .val (.long q2), .second, .val (.long q3), .second, .val (.int p4), .val (.int v2), .val (.ref b105), .val (.long q0), .second, .val (.long q1), .second, .val (.long q2), .second, .val (.long v5), .second, .val (.long v7), .second, .val (.long v9), .second, .val (.ref b128), .val (.int v10), .val (.ref b128), .unset, .unset] [(.int (lcmpW v5 q0))])) t := by
              intro t kt
              show Steps p.tables e below (T140.setTop (mkF m 197 #[.val (.long q0), .second, .val (.long q1), .second, .val (.long q2), .second, .val (.long q3), .second, .val (.int p4), .val (.int v2), .val (.ref b105), .val (.long q0), .second, .val (.long q1), .second, .val (.long q2), .second, .val (.long v5), .second, .val (.long v7), .second, .val (.long v9), .second, .val (.ref b128), .val (.int v10), .val (.ref b128), .unset, .unset] [(.int (lcmpW v5 q0))])) _
              refine XS.ifYes X140.here hx rfl (pc0 := 197) (pc' := 220) rfl (hb hby at_197) rfl ((if0 _ _).trans (feq (own_lc_neq hc197_24)).2) (by decide) (by decide) ?_
              show Steps p.tables e below (T140.setTop (mkF m 220 #[.val (.long q0), .second, .val (.long q1), .second, .val (.long q2), .second, .val (.long q3), .second, .val (.int p4), .val (.int v2), .val (.ref b105), .val (.long q0), .second, .val (.long q1), .second, .val (.long q2), .second, .val (.long v5), .second, .val (.long v7), .second, .val (.long v9), .second, .val (.ref b128), .val (.int v10), .val (.ref b128), .unset, .unset] [])) _
              refine XS.iconst X140.here hx rfl (hb hby at_220) ?_
              exact kt
            refine own_arm hgo228 ?_
            exact own_armEnd X140 N140 (rfl : T140.heap = T140.heap) (by rw [hv29.trans (if_neg hc197_24)]))
        obtain ⟨v32, hv32⟩ : ∃ z : Int32, z = (if (own_r3j q0 v5 q1 v7 q2 v9) = v29 then (1 : Int32) else (0 : Int32)) := ⟨_, rfl⟩
        obtain ⟨v33, hv33⟩ : ∃ z : Int32, z = (if v10 < (2 : Int32) then (1 : Int32) else v32) := ⟨_, rfl⟩
        obtain ⟨T236, lc236, X236, N236, e236, st236⟩ := own_mrg (n0 := n0) (h := T140.heap) (g := (mkF m 226 #[.val (.long q0), .second, .val (.long q1), .second, .val (.long q2), .second, .val (.long q3), .second, .val (.int p4), .val (.int v2), .val (.ref b105), .val (.long q0), .second, .val (.long q1), .second, .val (.long q2), .second, .val (.long v5), .second, .val (.long v7), .second, .val (.long v9), .second, .val (.ref b128), .val (.int v10), .val (.ref b128), .val (.int v29), .unset] [(.int (2 : Int32)), (.int v10)])) (g' := (mkF m 246 #[.val (.long q0), .second, .val (.long q1), .second, .val (.long q2), .second, .val (.long q3), .second, .val (.int p4), .val (.int v2), .val (.ref b105), .val (.long q0), .second, .val (.long q1), .second, .val (.long q2), .second, .val (.long v5), .second, .val (.long v7), .second, .val (.long v9), .second, .val (.ref b128), .val (.int v10), .val (.ref b128), .val (.int v29), .unset] [(.int v33)])) X229 (by
          by_cases hc226_30 : v10 < (2 : Int32)
          · have hgo230 : ∀ t, Steps p.tables e below (T229.setTop (mkF m 246 #[.val (.long q0), .second, .val (.long q1), .second, .val (.long q2), .second, .val (.long q3), .second, .val (.int p4), .val (.int v2), .val (.ref b105), .val (.long q0), .second, .val (.long q1), .second, .val (.long q2), .second, .val (.long v5), .second, .val (.long v7), .second, .val (.long v9), .second, .val (.ref b128), .val (.int v10), .val (.ref b128), .val (.int v29), .unset] [(.int (1 : Int32))])) t → Steps p.tables e below (T229.setTop (mkF m 226 #[.val (.long q0), .second, .val (.long q1), .second, .val (.long q2), .second, .val (.long q3), .second, .val (.int p4), .val (.int v2), .val (.ref b105), .val (.long q0), .second, .val (.long q1), .second, .val (.long q2), .second, .val (.long v5), .second, .val (.long v7), .second, .val (.long v9), .second, .val (.ref b128), .val (.int v10), .val (.ref b128), .val (.int v29), .unset] [(.int (2 : Int32)), (.int v10)])) t := by
              intro t kt
              show Steps p.tables e below (T229.setTop (mkF m 226 #[.val (.long q0), .second, .val (.long q1), .second, .val (.long q2), .second, .val (.long q3), .second, .val (.int p4), .val (.int v2), .val (.ref b105), .val (.long q0), .second, .val (.long q1), .second, .val (.long q2), .second, .val (.long v5), .second, .val (.long v7), .second, .val (.long v9), .second, .val (.ref b128), .val (.int v10), .val (.ref b128), .val (.int v29), .unset] [(.int (2 : Int32)), (.int v10)])) _
              refine XS.icmpYes X229.here hx rfl (pc0 := 226) (pc' := 241) rfl (hb hby at_226) rfl (tlt hc226_30).1 (by decide) (by decide) ?_
              show Steps p.tables e below (T229.setTop (mkF m 241 #[.val (.long q0), .second, .val (.long q1), .second, .val (.long q2), .second, .val (.long q3), .second, .val (.int p4), .val (.int v2), .val (.ref b105), .val (.long q0), .second, .val (.long q1), .second, .val (.long q2), .second, .val (.long v5), .second, .val (.long v7), .second, .val (.long v9), .second, .val (.ref b128), .val (.int v10), .val (.ref b128), .val (.int v29), .unset] [])) _
              refine XS.iconst X229.here hx rfl (hb hby at_241) ?_
              show Steps p.tables e below (T229.setTop (mkF m 242 #[.val (.long q0), .second, .val (.long q1), .second, .val (.long q2), .second, .val (.long q3), .second, .val (.int p4), .val (.int v2), .val (.ref b105), .val (.long q0), .second, .val (.long q1), .second, .val (.long q2), .second, .val (.long v5), .second, .val (.long v7), .second, .val (.long v9), .second, .val (.ref b128), .val (.int v10), .val (.ref b128), .val (.int v29), .unset] [(.int (1 : Int32))])) _
              refine XS.goto X229.here hx rfl (pc0 := 242) (pc' := 246) rfl (hb hby at_242) (by decide) (by decide) ?_
              exact kt
            refine own_arm hgo230 ?_
            exact own_armEnd X229 N229 e229 (by rw [hv33.trans (if_pos hc226_30)])
          · obtain ⟨cq231, kq231, q231a, q231b, q231c⟩ := isOf hZ e229 F140_0
            obtain ⟨_, _, ⟨T231, L231, k231, n231⟩, -, X231, ⟨Lc231, hQ231, l231, y231, z231⟩, st231⟩ := X229.virtualBack hx (y := (⟨"com/example/millrace/millrace/queue/JournalClock", "equals", "(Ljava/lang/Object;)Z"⟩ : MethodName)) (z := (⟨"com/example/millrace/millrace/queue/JournalClock", "equals", "(Ljava/lang/Object;)Z"⟩ : MethodName)) hown (mvT hZ (hw _ (List.mem_of_getElem? (i := 16) rfl))) (mvT hZ (hw _ (List.mem_of_getElem? (i := 17) rfl))) (notFace_of_selects (args := #[]) (mvT hZ (hw _ (List.mem_of_getElem? (i := 19) rfl)))) (mvT hZ (hw _ (List.mem_of_getElem? (i := 19) rfl))) (mvT hZ (hw _ (List.mem_of_getElem? (i := 18) rfl))) (by decide) (backOf (W := 0) (rm3j l Z a0 hw [] b128 b105 q0 v5 q1 v7 q2 v9 (T140.heap) n0 Z148 F143 F144 F140_1 F145 F140_2 F146 F140_3) hZ (hw _ (List.mem_of_getElem? (i := 20) rfl)) (hw _ (List.mem_of_getElem? (i := 2) rfl)) (by decide) (by decide)) q231a q231c (g := (mkF m 233 #[.val (.long q0), .second, .val (.long q1), .second, .val (.long q2), .second, .val (.long q3), .second, .val (.int p4), .val (.int v2), .val (.ref b105), .val (.long q0), .second, .val (.long q1), .second, .val (.long q2), .second, .val (.long v5), .second, .val (.long v7), .second, .val (.long v9), .second, .val (.ref b128), .val (.int v10), .val (.ref b128), .val (.int v29), .unset] [(.ref b105), (.ref b128)])) rfl (by rw [hml]; rfl) (Steps.refl _) (argsL := [(.ref b105)]) (rest := []) (lenOf pd6 rfl) rfl (by show 2 * 0 + _ ≤ _; exact Nat.le_of_eq rfl) (hb hby at_233) (fun _ _ => ⟨rfl, e229, (by decide : 2 + 0 ≤ _), (by decide : 6 + 0 ≤ _)⟩)
            dsimp only [Pt.U, Pt.locs, Pt.cells, Pt.slots] at X231 l231 y231 z231 st231 hQ231
            subst l231 y231 z231
            obtain ⟨rfl, N231q, e231⟩ := hQ231
            have N231 := Fr.app N229 N231q
            obtain ⟨T234, lc234, X234, N234, e234, st234⟩ := own_mrg (n0 := n0) (h := T140.heap) (g := (mkF m 238 #[.val (.long q0), .second, .val (.long q1), .second, .val (.long q2), .second, .val (.long q3), .second, .val (.int p4), .val (.int v2), .val (.ref b105), .val (.long q0), .second, .val (.long q1), .second, .val (.long q2), .second, .val (.long v5), .second, .val (.long v7), .second, .val (.long v9), .second, .val (.ref b128), .val (.int v10), .val (.ref b128), .val (.int v29), .unset] [(.int v29), (.int (own_r3j q0 v5 q1 v7 q2 v9))])) (g' := (mkF m 246 #[.val (.long q0), .second, .val (.long q1), .second, .val (.long q2), .second, .val (.long q3), .second, .val (.int p4), .val (.int v2), .val (.ref b105), .val (.long q0), .second, .val (.long q1), .second, .val (.long q2), .second, .val (.long v5), .second, .val (.long v7), .second, .val (.long v9), .second, .val (.ref b128), .val (.int v10), .val (.ref b128), .val (.int v29), .unset] [(.int v32)])) X231 (by
              by_cases hc238_31 : (own_r3j q0 v5 q1 v7 q2 v9) = v29
              · have hgo232 : ∀ t, Steps p.tables e below (T231.setTop (mkF m 246 #[.val (.long q0), .second, .val (.long q1), .second, .val (.long q2), .second, .val (.long q3), .second, .val (.int p4), .val (.int v2), .val (.ref b105), .val (.long q0), .second, .val (.long q1), .second, .val (.long q2), .second, .val (.long v5), .second, .val (.long v7), .second, .val (.long v9), .second, .val (.ref b128), .val (.int v10), .val (.ref b128), .val (.int v29), .unset] [(.int (1 : Int32))])) t → Steps p.tables e below (T231.setTop (mkF m 238 #[.val (.long q0), .second, .val (.long q1), .second, .val (.long q2), .second, .val (.long q3), .second, .val (.int p4), .val (.int v2), .val (.ref b105), .val (.long q0), .second, .val (.long q1), .second, .val (.long q2), .second, .val (.long v5), .second, .val (.long v7), .second, .val (.long v9), .second, .val (.ref b128), .val (.int v10), .val (.ref b128), .val (.int v29), .unset] [(.int v29), (.int (own_r3j q0 v5 q1 v7 q2 v9))])) t := by
                  intro t kt
                  show Steps p.tables e below (T231.setTop (mkF m 238 #[.val (.long q0), .second, .val (.long q1), .second, .val (.long q2), .second, .val (.long q3), .second, .val (.int p4), .val (.int v2), .val (.ref b105), .val (.long q0), .second, .val (.long q1), .second, .val (.long q2), .second, .val (.long v5), .second, .val (.long v7), .second, .val (.long v9), .second, .val (.ref b128), .val (.int v10), .val (.ref b128), .val (.int v29), .unset] [(.int v29), (.int (own_r3j q0 v5 q1 v7 q2 v9))])) _
                  refine XS.icmpNo X231.here hx rfl (hb hby at_238) rfl (teq hc238_31).2 ?_
                  show Steps p.tables e below (T231.setTop (mkF m 241 #[.val (.long q0), .second, .val (.long q1), .second, .val (.long q2), .second, .val (.long q3), .second, .val (.int p4), .val (.int v2), .val (.ref b105), .val (.long q0), .second, .val (.long q1), .second, .val (.long q2), .second, .val (.long v5), .second, .val (.long v7), .second, .val (.long v9), .second, .val (.ref b128), .val (.int v10), .val (.ref b128), .val (.int v29), .unset] [])) _
                  refine XS.iconst X231.here hx rfl (hb hby at_241) ?_
                  show Steps p.tables e below (T231.setTop (mkF m 242 #[.val (.long q0), .second, .val (.long q1), .second, .val (.long q2), .second, .val (.long q3), .second, .val (.int p4), .val (.int v2), .val (.ref b105), .val (.long q0), .second, .val (.long q1), .second, .val (.long q2), .second, .val (.long v5), .second, .val (.long v7), .second, .val (.long v9), .second, .val (.ref b128), .val (.int v10), .val (.ref b128), .val (.int v29), .unset] [(.int (1 : Int32))])) _
                  refine XS.goto X231.here hx rfl (pc0 := 242) (pc' := 246) rfl (hb hby at_242) (by decide) (by decide) ?_
                  exact kt
                refine own_arm hgo232 ?_
                exact own_armEnd X231 N231 e231 (by rw [hv32.trans (if_pos hc238_31)])
              · have hgo233 : ∀ t, Steps p.tables e below (T231.setTop (mkF m 246 #[.val (.long q0), .second, .val (.long q1), .second, .val (.long q2), .second, .val (.long q3), .second, .val (.int p4), .val (.int v2), .val (.ref b105), .val (.long q0), .second, .val (.long q1), .second, .val (.long q2), .second, .val (.long v5), .second, .val (.long v7), .second, .val (.long v9), .second, .val (.ref b128), .val (.int v10), .val (.ref b128), .val (.int v29), .unset] [(.int (0 : Int32))])) t → Steps p.tables e below (T231.setTop (mkF m 238 #[.val (.long q0), .second, .val (.long q1), .second, .val (.long q2), .second, .val (.long q3), .second, .val (.int p4), .val (.int v2), .val (.ref b105), .val (.long q0), .second, .val (.long q1), .second, .val (.long q2), .second, .val (.long v5), .second, .val (.long v7), .second, .val (.long v9), .second, .val (.ref b128), .val (.int v10), .val (.ref b128), .val (.int v29), .unset] [(.int v29), (.int (own_r3j q0 v5 q1 v7 q2 v9))])) t := by
                  intro t kt
                  show Steps p.tables e below (T231.setTop (mkF m 238 #[.val (.long q0), .second, .val (.long q1), .second, .val (.long q2), .second, .val (.long q3), .second, .val (.int p4), .val (.int v2), .val (.ref b105), .val (.long q0), .second, .val (.long q1), .second, .val (.long q2), .second, .val (.long v5), .second, .val (.long v7), .second, .val (.long v9), .second, .val (.ref b128), .val (.int v10), .val (.ref b128), .val (.int v29), .unset] [(.int v29), (.int (own_r3j q0 v5 q1 v7 q2 v9))])) _
                  refine XS.icmpYes X231.here hx rfl (pc0 := 238) (pc' := 245) rfl (hb hby at_238) rfl (feq hc238_31).2 (by decide) (by decide) ?_
                  show Steps p.tables e below (T231.setTop (mkF m 245 #[.val (.long q0), .second, .val (.long q1), .second, .val (.long q2), .second, .val (.long q3), .second, .val (.int p4), .val (.int v2), .val (.ref b105), .val (.long q0), .second, .val (.long q1), .second, .val (.long q2), .second, .val (.long v5), .second, .val (.long v7), .second, .val (.long v9), .second, .val (.ref b128), .val (.int v10), .val (.ref b128), .val (.int v29), .unset] [])) _
                  refine XS.iconst X231.here hx rfl (hb hby at_245) ?_
                  exact kt
                refine own_arm hgo233 ?_
                exact own_armEnd X231 N231 e231 (by rw [hv32.trans (if_neg hc238_31)]))
            have hgo235 : ∀ t, Steps p.tables e below (T234.setTop (mkF m 246 #[.val (.long q0), .second, .val (.long q1), .second, .val (.long q2), .second, .val (.long q3), .second, .val (.int p4), .val (.int v2), .val (.ref b105), .val (.long q0), .second, .val (.long q1), .second, .val (.long q2), .second, .val (.long v5), .second, .val (.long v7), .second, .val (.long v9), .second, .val (.ref b128), .val (.int v10), .val (.ref b128), .val (.int v29), .unset] [(.int v32)])) t → Steps p.tables e below (T229.setTop (mkF m 226 #[.val (.long q0), .second, .val (.long q1), .second, .val (.long q2), .second, .val (.long q3), .second, .val (.int p4), .val (.int v2), .val (.ref b105), .val (.long q0), .second, .val (.long q1), .second, .val (.long q2), .second, .val (.long v5), .second, .val (.long v7), .second, .val (.long v9), .second, .val (.ref b128), .val (.int v10), .val (.ref b128), .val (.int v29), .unset] [(.int (2 : Int32)), (.int v10)])) t := by
              intro t kt
              show Steps p.tables e below (T229.setTop (mkF m 226 #[.val (.long q0), .second, .val (.long q1), .second, .val (.long q2), .second, .val (.long q3), .second, .val (.int p4), .val (.int v2), .val (.ref b105), .val (.long q0), .second, .val (.long q1), .second, .val (.long q2), .second, .val (.long v5), .second, .val (.long v7), .second, .val (.long v9), .second, .val (.ref b128), .val (.int v10), .val (.ref b128), .val (.int v29), .unset] [(.int (2 : Int32)), (.int v10)])) _
              refine XS.icmpNo X229.here hx rfl (hb hby at_226) rfl (flt hc226_30).1 ?_
              show Steps p.tables e below (T229.setTop (mkF m 229 #[.val (.long q0), .second, .val (.long q1), .second, .val (.long q2), .second, .val (.long q3), .second, .val (.int p4), .val (.int v2), .val (.ref b105), .val (.long q0), .second, .val (.long q1), .second, .val (.long q2), .second, .val (.long v5), .second, .val (.long v7), .second, .val (.long v9), .second, .val (.ref b128), .val (.int v10), .val (.ref b128), .val (.int v29), .unset] [])) _
              refine XS.aload X229.here hx rfl (hb hby at_229) rfl rfl ?_
              show Steps p.tables e below (T229.setTop (mkF m 231 #[.val (.long q0), .second, .val (.long q1), .second, .val (.long q2), .second, .val (.long q3), .second, .val (.int p4), .val (.int v2), .val (.ref b105), .val (.long q0), .second, .val (.long q1), .second, .val (.long q2), .second, .val (.long v5), .second, .val (.long v7), .second, .val (.long v9), .second, .val (.ref b128), .val (.int v10), .val (.ref b128), .val (.int v29), .unset] [(.ref b128)])) _
              refine XS.aload X229.here hx rfl (hb hby at_231) rfl rfl ?_
              show Steps p.tables e below (T229.setTop (mkF m 233 #[.val (.long q0), .second, .val (.long q1), .second, .val (.long q2), .second, .val (.long q3), .second, .val (.int p4), .val (.int v2), .val (.ref b105), .val (.long q0), .second, .val (.long q1), .second, .val (.long q2), .second, .val (.long v5), .second, .val (.long v7), .second, .val (.long v9), .second, .val (.ref b128), .val (.int v10), .val (.ref b128), .val (.int v29), .unset] [(.ref b105), (.ref b128)])) _
              refine st231.trans ?_
              show Steps p.tables e below (T231.setTop (mkF m 236 #[.val (.long q0), .second, .val (.long q1), .second, .val (.long q2), .second, .val (.long q3), .second, .val (.int p4), .val (.int v2), .val (.ref b105), .val (.long q0), .second, .val (.long q1), .second, .val (.long q2), .second, .val (.long v5), .second, .val (.long v7), .second, .val (.long v9), .second, .val (.ref b128), .val (.int v10), .val (.ref b128), .val (.int v29), .unset] [(.int (own_r3j q0 v5 q1 v7 q2 v9))])) _
              refine XS.iload X231.here hx rfl (hb hby at_236) rfl ?_
              show Steps p.tables e below (T231.setTop (mkF m 238 #[.val (.long q0), .second, .val (.long q1), .second, .val (.long q2), .second, .val (.long q3), .second, .val (.int p4), .val (.int v2), .val (.ref b105), .val (.long q0), .second, .val (.long q1), .second, .val (.long q2), .second, .val (.long v5), .second, .val (.long v7), .second, .val (.long v9), .second, .val (.ref b128), .val (.int v10), .val (.ref b128), .val (.int v29), .unset] [(.int v29), (.int (own_r3j q0 v5 q1 v7 q2 v9))])) _
              refine st234 _ ?_
              exact kt
            refine own_arm hgo235 ?_
            exact own_armEnd X234 N234 e234 (by rw [hv33.trans (if_neg hc226_30)]))
        obtain ⟨cq237, kq237, q237a, q237b, q237c⟩ := isOf hZ e236 F143
        obtain ⟨_, _, ⟨T237, L237, k237, n237⟩, -, X237, ⟨Lc237, hQ237, l237, y237, z237⟩, st237⟩ := X236.virtualBack hx (y := (⟨"com/example/millrace/millrace/queue/JournalClock", "equals", "(Ljava/lang/Object;)Z"⟩ : MethodName)) (z := (⟨"com/example/millrace/millrace/queue/JournalClock", "equals", "(Ljava/lang/Object;)Z"⟩ : MethodName)) hown (mvT hZ (hw _ (List.mem_of_getElem? (i := 16) rfl))) (mvT hZ (hw _ (List.mem_of_getElem? (i := 17) rfl))) (notFace_of_selects (args := #[]) (mvT hZ (hw _ (List.mem_of_getElem? (i := 19) rfl)))) (mvT hZ (hw _ (List.mem_of_getElem? (i := 19) rfl))) (mvT hZ (hw _ (List.mem_of_getElem? (i := 18) rfl))) (by decide) (backOf (W := 0) (rm3j l Z a0 hw [] b105 b128 v5 q0 v7 q1 v9 q2 (T140.heap) n0 Z148 F140_0 F140_1 F144 F140_2 F145 F140_3 F146) hZ (hw _ (List.mem_of_getElem? (i := 20) rfl)) (hw _ (List.mem_of_getElem? (i := 2) rfl)) (by decide) (by decide)) q237a q237c (g := (mkF m 252 #[.val (.long q0), .second, .val (.long q1), .second, .val (.long q2), .second, .val (.long q3), .second, .val (.int p4), .val (.int v2), .val (.ref b105), .val (.long q0), .second, .val (.long q1), .second, .val (.long q2), .second, .val (.long v5), .second, .val (.long v7), .second, .val (.long v9), .second, .val (.ref b128), .val (.int v10), .val (.ref b128), .val (.int v29), .val (.int v33)] [(.ref b128), (.ref b105)])) rfl (by rw [hml]; rfl) (Steps.refl _) (argsL := [(.ref b128)]) (rest := []) (lenOf pd6 rfl) rfl (by show 2 * 0 + _ ≤ _; exact Nat.le_of_eq rfl) (hb hby at_252) (fun _ _ => ⟨rfl, e236, (by decide : 2 + 0 ≤ _), (by decide : 6 + 0 ≤ _)⟩)
        dsimp only [Pt.U, Pt.locs, Pt.cells, Pt.slots] at X237 l237 y237 z237 st237 hQ237
        subst l237 y237 z237
        obtain ⟨rfl, N237q, e237⟩ := hQ237
        have N237 := Fr.app N236 N237q
        obtain ⟨v37, hv37⟩ : ∃ z : Int32, z = (if (own_r3j q0 q0 q1 q1 q2 q2) = (0 : Int32) then (0 : Int32) else (1 : Int32)) := ⟨_, rfl⟩
        obtain ⟨v38, hv38⟩ : ∃ z : Int32, z = (if v33 = (0 : Int32) then (0 : Int32) else v37) := ⟨_, rfl⟩
        obtain ⟨v39, hv39⟩ : ∃ z : Int32, z = (if (own_r3j v5 q0 v7 q1 v9 q2) = v29 then v38 else (0 : Int32)) := ⟨_, rfl⟩
        obtain ⟨T247, lc247, X247, N247, e247, st247⟩ := own_mrg (n0 := n0) (h := T140.heap) (g := (mkF m 257 #[.val (.long q0), .second, .val (.long q1), .second, .val (.long q2), .second, .val (.long q3), .second, .val (.int p4), .val (.int v2), .val (.ref b105), .val (.long q0), .second, .val (.long q1), .second, .val (.long q2), .second, .val (.long v5), .second, .val (.long v7), .second, .val (.long v9), .second, .val (.ref b128), .val (.int v10), .val (.ref b128), .val (.int v29), .val (.int v33)] [(.int v29), (.int (own_r3j v5 q0 v7 q1 v9 q2))])) (g' := (mkF m 280 #[.val (.long q0), .second, .val (.long q1), .second, .val (.long q2), .second, .val (.long q3), .second, .val (.int p4), .val (.int v2), .val (.ref b105), .val (.long q0), .second, .val (.long q1), .second, .val (.long q2), .second, .val (.long v5), .second, .val (.long v7), .second, .val (.long v9), .second, .val (.ref b128), .val (.int v10), .val (.ref b128), .val (.int v29), .val (.int v33)] [(.int v39)])) X237 (by
          by_cases hc257_34 : (own_r3j v5 q0 v7 q1 v9 q2) = v29
          · obtain ⟨T244, lc244, X244, N244, e244, st244⟩ := own_mrg (n0 := n0) (h := T140.heap) (g := (mkF m 262 #[.val (.long q0), .second, .val (.long q1), .second, .val (.long q2), .second, .val (.long q3), .second, .val (.int p4), .val (.int v2), .val (.ref b105), .val (.long q0), .second, .val (.long q1), .second, .val (.long q2), .second, .val (.long v5), .second, .val (.long v7), .second, .val (.long v9), .second, .val (.ref b128), .val (.int v10), .val (.ref b128), .val (.int v29), .val (.int v33)] [(.int v33)])) (g' := (mkF m 280 #[.val (.long q0), .second, .val (.long q1), .second, .val (.long q2), .second, .val (.long q3), .second, .val (.int p4), .val (.int v2), .val (.ref b105), .val (.long q0), .second, .val (.long q1), .second, .val (.long q2), .second, .val (.long v5), .second, .val (.long v7), .second, .val (.long v9), .second, .val (.ref b128), .val (.int v10), .val (.ref b128), .val (.int v29), .val (.int v33)] [(.int v38)])) X237 (by
              by_cases hc262_35 : v33 = (0 : Int32)
              · have hgo238 : ∀ t, Steps p.tables e below (T237.setTop (mkF m 280 #[.val (.long q0), .second, .val (.long q1), .second, .val (.long q2), .second, .val (.long q3), .second, .val (.int p4), .val (.int v2), .val (.ref b105), .val (.long q0), .second, .val (.long q1), .second, .val (.long q2), .second, .val (.long v5), .second, .val (.long v7), .second, .val (.long v9), .second, .val (.ref b128), .val (.int v10), .val (.ref b128), .val (.int v29), .val (.int v33)] [(.int (0 : Int32))])) t → Steps p.tables e below (T237.setTop (mkF m 262 #[.val (.long q0), .second, .val (.long q1), .second, .val (.long q2), .second, .val (.long q3), .second, .val (.int p4), .val (.int v2), .val (.ref b105), .val (.long q0), .second, .val (.long q1), .second, .val (.long q2), .second, .val (.long v5), .second, .val (.long v7), .second, .val (.long v9), .second, .val (.ref b128), .val (.int v10), .val (.ref b128), .val (.int v29), .val (.int v33)] [(.int v33)])) t := by
                  intro t kt
                  show Steps p.tables e below (T237.setTop (mkF m 262 #[.val (.long q0), .second, .val (.long q1), .second, .val (.long q2), .second, .val (.long q3), .second, .val (.int p4), .val (.int v2), .val (.ref b105), .val (.long q0), .second, .val (.long q1), .second, .val (.long q2), .second, .val (.long v5), .second, .val (.long v7), .second, .val (.long v9), .second, .val (.ref b128), .val (.int v10), .val (.ref b128), .val (.int v29), .val (.int v33)] [(.int v33)])) _
                  refine XS.ifYes X237.here hx rfl (pc0 := 262) (pc' := 279) rfl (hb hby at_262) rfl ((if0 _ _).trans (teq hc262_35).1) (by decide) (by decide) ?_
                  show Steps p.tables e below (T237.setTop (mkF m 279 #[.val (.long q0), .second, .val (.long q1), .second, .val (.long q2), .second, .val (.long q3), .second, .val (.int p4), .val (.int v2), .val (.ref b105), .val (.long q0), .second, .val (.long q1), .second, .val (.long q2), .second, .val (.long v5), .second, .val (.long v7), .second, .val (.long v9), .second, .val (.ref b128), .val (.int v10), .val (.ref b128), .val (.int v29), .val (.int v33)] [])) _
                  refine XS.iconst X237.here hx rfl (hb hby at_279) ?_
                  exact kt
                refine own_arm hgo238 ?_
                exact own_armEnd X237 N237 e237 (by rw [hv38.trans (if_pos hc262_35)])
              · obtain ⟨cq239, kq239, q239a, q239b, q239c⟩ := isOf hZ e237 F143
                obtain ⟨_, _, ⟨T239, L239, k239, n239⟩, -, X239, ⟨Lc239, hQ239, l239, y239, z239⟩, st239⟩ := X237.virtualBack hx (y := (⟨"com/example/millrace/millrace/queue/JournalClock", "equals", "(Ljava/lang/Object;)Z"⟩ : MethodName)) (z := (⟨"com/example/millrace/millrace/queue/JournalClock", "equals", "(Ljava/lang/Object;)Z"⟩ : MethodName)) hown (mvT hZ (hw _ (List.mem_of_getElem? (i := 16) rfl))) (mvT hZ (hw _ (List.mem_of_getElem? (i := 17) rfl))) (notFace_of_selects (args := #[]) (mvT hZ (hw _ (List.mem_of_getElem? (i := 19) rfl)))) (mvT hZ (hw _ (List.mem_of_getElem? (i := 19) rfl))) (mvT hZ (hw _ (List.mem_of_getElem? (i := 18) rfl))) (by decide) (backOf (W := 0) (rm3j l Z a0 hw [] b105 b105 q0 q0 q1 q1 q2 q2 (T140.heap) n0 Z148 F143 F144 F144 F145 F145 F146 F146) hZ (hw _ (List.mem_of_getElem? (i := 20) rfl)) (hw _ (List.mem_of_getElem? (i := 2) rfl)) (by decide) (by decide)) q239a q239c (g := (mkF m 269 #[.val (.long q0), .second, .val (.long q1), .second, .val (.long q2), .second, .val (.long q3), .second, .val (.int p4), .val (.int v2), .val (.ref b105), .val (.long q0), .second, .val (.long q1), .second, .val (.long q2), .second, .val (.long v5), .second, .val (.long v7), .second, .val (.long v9), .second, .val (.ref b128), .val (.int v10), .val (.ref b128), .val (.int v29), .val (.int v33)] [(.ref b105), (.ref b105)])) rfl (by rw [hml]; rfl) (Steps.refl _) (argsL := [(.ref b105)]) (rest := []) (lenOf pd6 rfl) rfl (by show 2 * 0 + _ ≤ _; exact Nat.le_of_eq rfl) (hb hby at_269) (fun _ _ => ⟨rfl, e237, (by decide : 2 + 0 ≤ _), (by decide : 6 + 0 ≤ _)⟩)
                dsimp only [Pt.U, Pt.locs, Pt.cells, Pt.slots] at X239 l239 y239 z239 st239 hQ239
                subst l239 y239 z239
                obtain ⟨rfl, N239q, e239⟩ := hQ239
                have N239 := Fr.app N237 N239q
                obtain ⟨T242, lc242, X242, N242, e242, st242⟩ := own_mrg (n0 := n0) (h := T140.heap) (g := (mkF m 272 #[.val (.long q0), .second, .val (.long q1), .second, .val (.long q2), .second, .val (.long q3), .second, .val (.int p4), .val (.int v2), .val (.ref b105), .val (.long q0), .second, .val (.long q1), .second, .val (.long q2), .second, .val (.long v5), .second, .val (.long v7), .second, .val (.long v9), .second, .val (.ref b128), .val (.int v10), .val (.ref b128), .val (.int v29), .val (.int v33)] [(.int (own_r3j q0 q0 q1 q1 q2 q2))])) (g' := (mkF m 280 #[.val (.long q0), .second, .val (.long q1), .second, .val (.long q2), .second, .val (.long q3), .second, .val (.int p4), .val (.int v2), .val (.ref b105), .val (.long q0), .second, .val (.long q1), .second, .val (.long q2), .second, .val (.long v5), .second, .val (.long v7), .second, .val (.long v9), .second, .val (.ref b128), .val (.int v10), .val (.ref b128), .val (.int v29), .val (.int v33)] [(.int v37)])) X239 (by
                  by_cases hc272_36 : (own_r3j q0 q0 q1 q1 q2 q2) = (0 : Int32)
                  · have hgo240 : ∀ t, Steps p.tables e below (T239.setTop (mkF m 280 #[.val (.long q0), .second, .val (.long q1), .second, .val (.long q2), .second, .val (.long q3), .second, .val (.int p4), .val (.int v2), .val (.ref b105), .val (.long q0), .second, .val (.long q1), .second, .val (.long q2), .second, .val (.long v5), .second, .val (.long v7), .second, .val (.long v9), .second, .val (.ref b128), .val (.int v10), .val (.ref b128), .val (.int v29), .val (.int v33)] [(.int (0 : Int32))])) t → Steps p.tables e below (T239.setTop (mkF m 272 #[.val (.long q0), .second, .val (.long q1), .second, .val (.long q2), .second, .val (.long q3), .second, .val (.int p4), .val (.int v2), .val (.ref b105), .val (.long q0), .second, .val (.long q1), .second, .val (.long q2), .second, .val (.long v5), .second, .val (.long v7), .second, .val (.long v9), .second, .val (.ref b128), .val (.int v10), .val (.ref b128), .val (.int v29), .val (.int v33)] [(.int (own_r3j q0 q0 q1 q1 q2 q2))])) t := by
                      intro t kt
                      show Steps p.tables e below (T239.setTop (mkF m 272 #[.val (.long q0), .second, .val (.long q1), .second, .val (.long q2), .second, .val (.long q3), .second, .val (.int p4), .val (.int v2), .val (.ref b105), .val (.long q0), .second, .val (.long q1), .second, .val (.long q2), .second, .val (.long v5), .second, .val (.long v7), .second, .val (.long v9), .second, .val (.ref b128), .val (.int v10), .val (.ref b128), .val (.int v29), .val (.int v33)] [(.int (own_r3j q0 q0 q1 q1 q2 q2))])) _
                      refine XS.ifYes X239.here hx rfl (pc0 := 272) (pc' := 279) rfl (hb hby at_272) rfl ((if0 _ _).trans (teq hc272_36).1) (by decide) (by decide) ?_
                      show Steps p.tables e below (T239.setTop (mkF m 279 #[.val (.long q0), .second, .val (.long q1), .second, .val (.long q2), .second, .val (.long q3), .second, .val (.int p4), .val (.int v2), .val (.ref b105), .val (.long q0), .second, .val (.long q1), .second, .val (.long q2), .second, .val (.long v5), .second, .val (.long v7), .second, .val (.long v9), .second, .val (.ref b128), .val (.int v10), .val (.ref b128), .val (.int v29), .val (.int v33)] [])) _
                      refine XS.iconst X239.here hx rfl (hb hby at_279) ?_
                      exact kt
                    refine own_arm hgo240 ?_
                    exact own_armEnd X239 N239 e239 (by rw [hv37.trans (if_pos hc272_36)])
                  · have hgo241 : ∀ t, Steps p.tables e below (T239.setTop (mkF m 280 #[.val (.long q0), .second, .val (.long q1), .second, .val (.long q2), .second, .val (.long q3), .second, .val (.int p4), .val (.int v2), .val (.ref b105), .val (.long q0), .second, .val (.long q1), .second, .val (.long q2), .second, .val (.long v5), .second, .val (.long v7), .second, .val (.long v9), .second, .val (.ref b128), .val (.int v10), .val (.ref b128), .val (.int v29), .val (.int v33)] [(.int (1 : Int32))])) t → Steps p.tables e below (T239.setTop (mkF m 272 #[.val (.long q0), .second, .val (.long q1), .second, .val (.long q2), .second, .val (.long q3), .second, .val (.int p4), .val (.int v2), .val (.ref b105), .val (.long q0), .second, .val (.long q1), .second, .val (.long q2), .second, .val (.long v5), .second, .val (.long v7), .second, .val (.long v9), .second, .val (.ref b128), .val (.int v10), .val (.ref b128), .val (.int v29), .val (.int v33)] [(.int (own_r3j q0 q0 q1 q1 q2 q2))])) t := by
                      intro t kt
                      show Steps p.tables e below (T239.setTop (mkF m 272 #[.val (.long q0), .second, .val (.long q1), .second, .val (.long q2), .second, .val (.long q3), .second, .val (.int p4), .val (.int v2), .val (.ref b105), .val (.long q0), .second, .val (.long q1), .second, .val (.long q2), .second, .val (.long v5), .second, .val (.long v7), .second, .val (.long v9), .second, .val (.ref b128), .val (.int v10), .val (.ref b128), .val (.int v29), .val (.int v33)] [(.int (own_r3j q0 q0 q1 q1 q2 q2))])) _
                      refine XS.ifNo X239.here hx rfl (hb hby at_272) rfl ((if0 _ _).trans (feq hc272_36).1) ?_
                      show Steps p.tables e below (T239.setTop (mkF m 275 #[.val (.long q0), .second, .val (.long q1), .second, .val (.long q2), .second, .val (.long q3), .second, .val (.int p4), .val (.int v2), .val (.ref b105), .val (.long q0), .second, .val (.long q1), .second, .val (.long q2), .second, .val (.long v5), .second, .val (.long v7), .second, .val (.long v9), .second, .val (.ref b128), .val (.int v10), .val (.ref b128), .val (.int v29), .val (.int v33)] [])) _
                      refine XS.iconst X239.here hx rfl (hb hby at_275) ?_
                      show Steps p.tables e below (T239.setTop (mkF m 276 #[.val (.long q0), .second, .val (.long q1), .second, .val (.long q2), .second, .val (.long q3), .second, .val (.int p4), .val (.int v2), .val (.ref b105), .val (.long q0), .second, .val (.long q1), .second, .val (.long q2), .second, .val (.long v5), .second, .val (.long v7), .second, .val (.long v9), .second, .val (.ref b128), .val (.int v10), .val (.ref b128), .val (.int v29), .val (.int v33)] [(.int (1 : Int32))])) _
                      refine XS.goto X239.here hx rfl (pc0 := 276) (pc' := 280) rfl (hb hby at_276) (by decide) (by decide) ?_
                      exact kt
                    refine own_arm hgo241 ?_
                    exact own_armEnd X239 N239 e239 (by rw [hv37.trans (if_neg hc272_36)]))
                have hgo243 : ∀ t, Steps p.tables e below (T242.setTop (mkF m 280 #[.val (.long q0), .second, .val (.long q1), .second, .val (.long q2), .second, .val (.long q3), .second, .val (.int p4), .val (.int v2), .val (.ref b105), .val (.long q0), .second, .val (.long q1), .second, .val (.long q2), .second, .val (.long v5), .second, .val (.long v7), .second, .val (.long v9), .second, .val (.ref b128), .val (.int v10), .val (.ref b128), .val (.int v29), .val (.int v33)] [(.int v37)])) t → Steps p.tables e below (T237.setTop (mkF m 262 #[.val (.long q0), .second, .val (.long q1), .second, .val (.long q2), .second, .val (.long q3), .second, .val (.int p4), .val (.int v2), .val (.ref b105), .val (.long q0), .second, .val (.long q1), .second, .val (.long q2), .second, .val (.long v5), .second, .val (.long v7), .second, .val (.long v9), .second, .val (.ref b128), .val (.int v10), .val (.ref b128), .val (.int v29), .val (.int v33)] [(.int v33)])) t := by
                  intro t kt
                  show Steps p.tables e below (T237.setTop (mkF m 262 #[.val (.long q0), .second, .val (.long q1), .second, .val (.long q2), .second, .val (.long q3), .second, .val (.int p4), .val (.int v2), .val (.ref b105), .val (.long q0), .second, .val (.long q1), .second, .val (.long q2), .second, .val (.long v5), .second, .val (.long v7), .second, .val (.long v9), .second, .val (.ref b128), .val (.int v10), .val (.ref b128), .val (.int v29), .val (.int v33)] [(.int v33)])) _
                  refine XS.ifNo X237.here hx rfl (hb hby at_262) rfl ((if0 _ _).trans (feq hc262_35).1) ?_
                  show Steps p.tables e below (T237.setTop (mkF m 265 #[.val (.long q0), .second, .val (.long q1), .second, .val (.long q2), .second, .val (.long q3), .second, .val (.int p4), .val (.int v2), .val (.ref b105), .val (.long q0), .second, .val (.long q1), .second, .val (.long q2), .second, .val (.long v5), .second, .val (.long v7), .second, .val (.long v9), .second, .val (.ref b128), .val (.int v10), .val (.ref b128), .val (.int v29), .val (.int v33)] [])) _
                  refine XS.aload X237.here hx rfl (hb hby at_265) rfl rfl ?_
                  show Steps p.tables e below (T237.setTop (mkF m 267 #[.val (.long q0), .second, .val (.long q1), .second, .val (.long q2), .second, .val (.long q3), .second, .val (.int p4), .val (.int v2), .val (.ref b105), .val (.long q0), .second, .val (.long q1), .second, .val (.long q2), .second, .val (.long v5), .second, .val (.long v7), .second, .val (.long v9), .second, .val (.ref b128), .val (.int v10), .val (.ref b128), .val (.int v29), .val (.int v33)] [(.ref b105)])) _
                  refine XS.aload X237.here hx rfl (hb hby at_267) rfl rfl ?_
                  show Steps p.tables e below (T237.setTop (mkF m 269 #[.val (.long q0), .second, .val (.long q1), .second, .val (.long q2), .second, .val (.long q3), .second, .val (.int p4), .val (.int v2), .val (.ref b105), .val (.long q0), .second, .val (.long q1), .second, .val (.long q2), .second, .val (.long v5), .second, .val (.long v7), .second, .val (.long v9), .second, .val (.ref b128), .val (.int v10), .val (.ref b128), .val (.int v29), .val (.int v33)] [(.ref b105), (.ref b105)])) _
                  refine st239.trans ?_
                  show Steps p.tables e below (T239.setTop (mkF m 272 #[.val (.long q0), .second, .val (.long q1), .second, .val (.long q2), .second, .val (.long q3), .second, .val (.int p4), .val (.int v2), .val (.ref b105), .val (.long q0), .second, .val (.long q1), .second, .val (.long q2), .second, .val (.long v5), .second, .val (.long v7), .second, .val (.long v9), .second, .val (.ref b128), .val (.int v10), .val (.ref b128), .val (.int v29), .val (.int v33)] [(.int (own_r3j q0 q0 q1 q1 q2 q2))])) _
                  refine st242 _ ?_
                  exact kt
                refine own_arm hgo243 ?_
                exact own_armEnd X242 N242 e242 (by rw [hv38.trans (if_neg hc262_35)]))
            have hgo245 : ∀ t, Steps p.tables e below (T244.setTop (mkF m 280 #[.val (.long q0), .second, .val (.long q1), .second, .val (.long q2), .second, .val (.long q3), .second, .val (.int p4), .val (.int v2), .val (.ref b105), .val (.long q0), .second, .val (.long q1), .second, .val (.long q2), .second, .val (.long v5), .second, .val (.long v7), .second, .val (.long v9), .second, .val (.ref b128), .val (.int v10), .val (.ref b128), .val (.int v29), .val (.int v33)] [(.int v38)])) t → Steps p.tables e below (T237.setTop (mkF m 257 #[.val (.long q0), .second, .val (.long q1), .second, .val (.long q2), .second, .val (.long q3), .second, .val (.int p4), .val (.int v2), .val (.ref b105), .val (.long q0), .second, .val (.long q1), .second, .val (.long q2), .second, .val (.long v5), .second, .val (.long v7), .second, .val (.long v9), .second, .val (.ref b128), .val (.int v10), .val (.ref b128), .val (.int v29), .val (.int v33)] [(.int v29), (.int (own_r3j v5 q0 v7 q1 v9 q2))])) t := by
              intro t kt
              show Steps p.tables e below (T237.setTop (mkF m 257 #[.val (.long q0), .second, .val (.long q1), .second, .val (.long q2), .second, .val (.long q3), .second, .val (.int p4), .val (.int v2), .val (.ref b105), .val (.long q0), .second, .val (.long q1), .second, .val (.long q2), .second, .val (.long v5), .second, .val (.long v7), .second, .val (.long v9), .second, .val (.ref b128), .val (.int v10), .val (.ref b128), .val (.int v29), .val (.int v33)] [(.int v29), (.int (own_r3j v5 q0 v7 q1 v9 q2))])) _
              refine XS.icmpNo X237.here hx rfl (hb hby at_257) rfl (teq hc257_34).2 ?_
              show Steps p.tables e below (T237.setTop (mkF m 260 #[.val (.long q0), .second, .val (.long q1), .second, .val (.long q2), .second, .val (.long q3), .second, .val (.int p4), .val (.int v2), .val (.ref b105), .val (.long q0), .second, .val (.long q1), .second, .val (.long q2), .second, .val (.long v5), .second, .val (.long v7), .second, .val (.long v9), .second, .val (.ref b128), .val (.int v10), .val (.ref b128), .val (.int v29), .val (.int v33)] [])) _
              refine XS.iload X237.here hx rfl (hb hby at_260) rfl ?_
              show Steps p.tables e below (T237.setTop (mkF m 262 #[.val (.long q0), .second, .val (.long q1), .second, .val (.long q2), .second, .val (.long q3), .second, .val (.int p4), .val (.int v2), .val (.ref b105), .val (.long q0), .second, .val (.long q1), .second, .val (.long q2), .second, .val (.long v5), .second, .val (.long v7), .second, .val (.long v9), .second, .val (.ref b128), .val (.int v10), .val (.ref b128), .val (.int v29), .val (.int v33)] [(.int v33)])) _
              refine st244 _ ?_
              exact kt
            refine own_arm hgo245 ?_
            exact own_armEnd X244 N244 e244 (by rw [hv39.trans (if_pos hc257_34)])
          · have hgo246 : ∀ t, Steps p.tables e below (T237.setTop (mkF m 280 #[.val (.long q0), .second, .val (.long q1), .second, .val (.long q2), .second, .val (.long q3), .second, .val (.int p4), .val (.int v2), .val (.ref b105), .val (.long q0), .second, .val (.long q1), .second, .val (.long q2), .second, .val (.long v5), .second, .val (.long v7), .second, .val (.long v9), .second, .val (.ref b128), .val (.int v10), .val (.ref b128), .val (.int v29), .val (.int v33)] [(.int (0 : Int32))])) t → Steps p.tables e below (T237.setTop (mkF m 257 #[.val (.long q0), .second, .val (.long q1), .second, .val (.long q2), .second, .val (.long q3), .second, .val (.int p4), .val (.int v2), .val (.ref b105), .val (.long q0), .second, .val (.long q1), .second, .val (.long q2), .second, .val (.long v5), .second, .val (.long v7), .second, .val (.long v9), .second, .val (.ref b128), .val (.int v10), .val (.ref b128), .val (.int v29), .val (.int v33)] [(.int v29), (.int (own_r3j v5 q0 v7 q1 v9 q2))])) t := by
              intro t kt
              show Steps p.tables e below (T237.setTop (mkF m 257 #[.val (.long q0), .second, .val (.long q1), .second, .val (.long q2), .second, .val (.long q3), .second, .val (.int p4), .val (.int v2), .val (.ref b105), .val (.long q0), .second, .val (.long q1), .second, .val (.long q2), .second, .val (.long v5), .second, .val (.long v7), .second, .val (.long v9), .second, .val (.ref b128), .val (.int v10), .val (.ref b128), .val (.int v29), .val (.int v33)] [(.int v29), (.int (own_r3j v5 q0 v7 q1 v9 q2))])) _
              refine XS.icmpYes X237.here hx rfl (pc0 := 257) (pc' := 279) rfl (hb hby at_257) rfl (feq hc257_34).2 (by decide) (by decide) ?_
              show Steps p.tables e below (T237.setTop (mkF m 279 #[.val (.long q0), .second, .val (.long q1), .second, .val (.long q2), .second, .val (.long q3), .second, .val (.int p4), .val (.int v2), .val (.ref b105), .val (.long q0), .second, .val (.long q1), .second, .val (.long q2), .second, .val (.long v5), .second, .val (.long v7), .second, .val (.long v9), .second, .val (.ref b128), .val (.int v10), .val (.ref b128), .val (.int v29), .val (.int v33)] [])) _
              refine XS.iconst X237.here hx rfl (hb hby at_279) ?_
              exact kt
            refine own_arm hgo246 ?_
            exact own_armEnd X237 N237 e237 (by rw [hv39.trans (if_neg hc257_34)]))
        have hgo248 : ∀ t, Steps p.tables e below (T247.setTop (mkF m 280 #[.val (.long q0), .second, .val (.long q1), .second, .val (.long q2), .second, .val (.long q3), .second, .val (.int p4), .val (.int v2), .val (.ref b105), .val (.long q0), .second, .val (.long q1), .second, .val (.long q2), .second, .val (.long v5), .second, .val (.long v7), .second, .val (.long v9), .second, .val (.ref b128), .val (.int v10), .val (.ref b128), .val (.int v29), .val (.int v33)] [(.int v39)])) t → Steps p.tables e below (T140.setTop (mkF m 172 #[.val (.long q0), .second, .val (.long q1), .second, .val (.long q2), .second, .val (.long q3), .second, .val (.int p4), .val (.int v2), .val (.ref b105), .val (.long q0), .second, .val (.long q1), .second, .val (.long q2), .second, .val (.long v5), .second, .val (.long v7), .second, .val (.long v9), .second, .val (.ref b128), .val (.int v10), .unset, .unset, .unset] [(.int (1 : Int32)), (.int v10)])) t := by
          intro t kt
          show Steps p.tables e below (T140.setTop (mkF m 172 #[.val (.long q0), .second, .val (.long q1), .second, .val (.long q2), .second, .val (.long q3), .second, .val (.int p4), .val (.int v2), .val (.ref b105), .val (.long q0), .second, .val (.long q1), .second, .val (.long q2), .second, .val (.long v5), .second, .val (.long v7), .second, .val (.long v9), .second, .val (.ref b128), .val (.int v10), .unset, .unset, .unset] [(.int (1 : Int32)), (.int v10)])) _
          refine XS.icmpYes X140.here hx rfl (pc0 := 172) (pc' := 188) rfl (hb hby at_172) rfl (feq hc172_15).2 (by decide) (by decide) ?_
          show Steps p.tables e below (T140.setTop (mkF m 188 #[.val (.long q0), .second, .val (.long q1), .second, .val (.long q2), .second, .val (.long q3), .second, .val (.int p4), .val (.int v2), .val (.ref b105), .val (.long q0), .second, .val (.long q1), .second, .val (.long q2), .second, .val (.long v5), .second, .val (.long v7), .second, .val (.long v9), .second, .val (.ref b128), .val (.int v10), .unset, .unset, .unset] [])) _
          refine XS.aload X140.here hx rfl (hb hby at_188) rfl rfl ?_
          show Steps p.tables e below (T140.setTop (mkF m 190 #[.val (.long q0), .second, .val (.long q1), .second, .val (.long q2), .second, .val (.long q3), .second, .val (.int p4), .val (.int v2), .val (.ref b105), .val (.long q0), .second, .val (.long q1), .second, .val (.long q2), .second, .val (.long v5), .second, .val (.long v7), .second, .val (.long v9), .second, .val (.ref b128), .val (.int v10), .unset, .unset, .unset] [(.ref b128)])) _
          refine XS.astore X140.here hx rfl (hb hby at_190) rfl rfl (l' := #[.val (.long q0), .second, .val (.long q1), .second, .val (.long q2), .second, .val (.long q3), .second, .val (.int p4), .val (.int v2), .val (.ref b105), .val (.long q0), .second, .val (.long q1), .second, .val (.long q2), .second, .val (.long v5), .second, .val (.long v7), .second, .val (.long v9), .second, .val (.ref b128), .val (.int v10), .val (.ref b128), .unset, .unset]) rfl ?_
          show Steps p.tables e below (T140.setTop (mkF m 192 #[.val (.long q0), .second, .val (.long q1), .second, .val (.long q2), .second, .val (.long q3), .second, .val (.int p4), .val (.int v2), .val (.ref b105), .val (.long q0), .second, .val (.long q1), .second, .val (.long q2), .second, .val (.long v5), .second, .val (.long v7), .second, .val (.long v9), .second, .val (.ref b128), .val (.int v10), .val (.ref b128), .unset, .unset] [])) _
          refine XS.lload X140.here hx rfl (hb hby at_192) rfl ?_
          show Steps p.tables e below (T140.setTop (mkF m 194 #[.val (.long q0), .second, .val (.long q1), .second, .val (.long q2), .second, .val (.long q3), .second, .val (.int p4), .val (.int v2), .val (.ref b105), .val (.long q0), .second, .val (.long q1), .second, .val (.long q2), .second, .val (.long v5), .second, .val (.long v7), .second, .val (.long v9), .second, .val (.ref b128), .val (.int v10), .val (.ref b128), .unset, .unset] [(.long v5)])) _
          refine XS.lload X140.here hx rfl (hb hby at_194) rfl ?_
          show Steps p.tables e below (T140.setTop (mkF m 196 #[.val (.long q0), .second, .val (.long q1), .second, .val (.long q2), .second, .val (.long q3), .second, .val (.int p4), .val (.int v2), .val (.ref b105), .val (.long q0), .second, .val (.long q1), .second, .val (.long q2), .second, .val (.long v5), .second, .val (.long v7), .second, .val (.long v9), .second, .val (.ref b128), .val (.int v10), .val (.ref b128), .unset, .unset] [(.long q0), (.long v5)])) _
          refine XS.lcmp X140.here hx rfl (hb hby at_196) rfl ?_
          show Steps p.tables e below (T140.setTop (mkF m 197 #[.val (.long q0), .second, .val (.long q1), .second, .val (.long q2), .second, .val (.long q3), .second, .val (.int p4), .val (.int v2), .val (.ref b105), .val (.long q0), .second, .val (.long q1), .second, .val (.long q2), .second, .val (.long v5), .second, .val (.long v7), .second, .val (.long v9), .second, .val (.ref b128), .val (.int v10), .val (.ref b128), .unset, .unset] [(.int (lcmpW v5 q0))])) _
          refine st229 _ ?_
          show Steps p.tables e below (T229.setTop (mkF m 221 #[.val (.long q0), .second, .val (.long q1), .second, .val (.long q2), .second, .val (.long q3), .second, .val (.int p4), .val (.int v2), .val (.ref b105), .val (.long q0), .second, .val (.long q1), .second, .val (.long q2), .second, .val (.long v5), .second, .val (.long v7), .second, .val (.long v9), .second, .val (.ref b128), .val (.int v10), .val (.ref b128), .unset, .unset] [(.int v29)])) _
          refine XS.istore X229.here hx rfl (hb hby at_221) rfl (l' := #[.val (.long q0), .second, .val (.long q1), .second, .val (.long q2), .second, .val (.long q3), .second, .val (.int p4), .val (.int v2), .val (.ref b105), .val (.long q0), .second, .val (.long q1), .second, .val (.long q2), .second, .val (.long v5), .second, .val (.long v7), .second, .val (.long v9), .second, .val (.ref b128), .val (.int v10), .val (.ref b128), .val (.int v29), .unset]) rfl ?_
          show Steps p.tables e below (T229.setTop (mkF m 223 #[.val (.long q0), .second, .val (.long q1), .second, .val (.long q2), .second, .val (.long q3), .second, .val (.int p4), .val (.int v2), .val (.ref b105), .val (.long q0), .second, .val (.long q1), .second, .val (.long q2), .second, .val (.long v5), .second, .val (.long v7), .second, .val (.long v9), .second, .val (.ref b128), .val (.int v10), .val (.ref b128), .val (.int v29), .unset] [])) _
          refine XS.iload X229.here hx rfl (hb hby at_223) rfl ?_
          show Steps p.tables e below (T229.setTop (mkF m 225 #[.val (.long q0), .second, .val (.long q1), .second, .val (.long q2), .second, .val (.long q3), .second, .val (.int p4), .val (.int v2), .val (.ref b105), .val (.long q0), .second, .val (.long q1), .second, .val (.long q2), .second, .val (.long v5), .second, .val (.long v7), .second, .val (.long v9), .second, .val (.ref b128), .val (.int v10), .val (.ref b128), .val (.int v29), .unset] [(.int v10)])) _
          refine XS.iconst X229.here hx rfl (hb hby at_225) ?_
          show Steps p.tables e below (T229.setTop (mkF m 226 #[.val (.long q0), .second, .val (.long q1), .second, .val (.long q2), .second, .val (.long q3), .second, .val (.int p4), .val (.int v2), .val (.ref b105), .val (.long q0), .second, .val (.long q1), .second, .val (.long q2), .second, .val (.long v5), .second, .val (.long v7), .second, .val (.long v9), .second, .val (.ref b128), .val (.int v10), .val (.ref b128), .val (.int v29), .unset] [(.int (2 : Int32)), (.int v10)])) _
          refine st236 _ ?_
          show Steps p.tables e below (T236.setTop (mkF m 246 #[.val (.long q0), .second, .val (.long q1), .second, .val (.long q2), .second, .val (.long q3), .second, .val (.int p4), .val (.int v2), .val (.ref b105), .val (.long q0), .second, .val (.long q1), .second, .val (.long q2), .second, .val (.long v5), .second, .val (.long v7), .second, .val (.long v9), .second, .val (.ref b128), .val (.int v10), .val (.ref b128), .val (.int v29), .unset] [(.int v33)])) _
          refine XS.istore X236.here hx rfl (hb hby at_246) rfl (l' := #[.val (.long q0), .second, .val (.long q1), .second, .val (.long q2), .second, .val (.long q3), .second, .val (.int p4), .val (.int v2), .val (.ref b105), .val (.long q0), .second, .val (.long q1), .second, .val (.long q2), .second, .val (.long v5), .second, .val (.long v7), .second, .val (.long v9), .second, .val (.ref b128), .val (.int v10), .val (.ref b128), .val (.int v29), .val (.int v33)]) rfl ?_
          show Steps p.tables e below (T236.setTop (mkF m 248 #[.val (.long q0), .second, .val (.long q1), .second, .val (.long q2), .second, .val (.long q3), .second, .val (.int p4), .val (.int v2), .val (.ref b105), .val (.long q0), .second, .val (.long q1), .second, .val (.long q2), .second, .val (.long v5), .second, .val (.long v7), .second, .val (.long v9), .second, .val (.ref b128), .val (.int v10), .val (.ref b128), .val (.int v29), .val (.int v33)] [])) _
          refine XS.aload X236.here hx rfl (hb hby at_248) rfl rfl ?_
          show Steps p.tables e below (T236.setTop (mkF m 250 #[.val (.long q0), .second, .val (.long q1), .second, .val (.long q2), .second, .val (.long q3), .second, .val (.int p4), .val (.int v2), .val (.ref b105), .val (.long q0), .second, .val (.long q1), .second, .val (.long q2), .second, .val (.long v5), .second, .val (.long v7), .second, .val (.long v9), .second, .val (.ref b128), .val (.int v10), .val (.ref b128), .val (.int v29), .val (.int v33)] [(.ref b105)])) _
          refine XS.aload X236.here hx rfl (hb hby at_250) rfl rfl ?_
          show Steps p.tables e below (T236.setTop (mkF m 252 #[.val (.long q0), .second, .val (.long q1), .second, .val (.long q2), .second, .val (.long q3), .second, .val (.int p4), .val (.int v2), .val (.ref b105), .val (.long q0), .second, .val (.long q1), .second, .val (.long q2), .second, .val (.long v5), .second, .val (.long v7), .second, .val (.long v9), .second, .val (.ref b128), .val (.int v10), .val (.ref b128), .val (.int v29), .val (.int v33)] [(.ref b128), (.ref b105)])) _
          refine st237.trans ?_
          show Steps p.tables e below (T237.setTop (mkF m 255 #[.val (.long q0), .second, .val (.long q1), .second, .val (.long q2), .second, .val (.long q3), .second, .val (.int p4), .val (.int v2), .val (.ref b105), .val (.long q0), .second, .val (.long q1), .second, .val (.long q2), .second, .val (.long v5), .second, .val (.long v7), .second, .val (.long v9), .second, .val (.ref b128), .val (.int v10), .val (.ref b128), .val (.int v29), .val (.int v33)] [(.int (own_r3j v5 q0 v7 q1 v9 q2))])) _
          refine XS.iload X237.here hx rfl (hb hby at_255) rfl ?_
          show Steps p.tables e below (T237.setTop (mkF m 257 #[.val (.long q0), .second, .val (.long q1), .second, .val (.long q2), .second, .val (.long q3), .second, .val (.int p4), .val (.int v2), .val (.ref b105), .val (.long q0), .second, .val (.long q1), .second, .val (.long q2), .second, .val (.long v5), .second, .val (.long v7), .second, .val (.long v9), .second, .val (.ref b128), .val (.int v10), .val (.ref b128), .val (.int v29), .val (.int v33)] [(.int v29), (.int (own_r3j v5 q0 v7 q1 v9 q2))])) _
          refine st247 _ ?_
          exact kt
        refine own_go hgo248 ?_
        have hz249 : v39 = 1 := own_leaf4 (q0 := q0) (q1 := q1) (q2 := q2) (q3 := q3) (p4 := p4) (ulc := ulc) hv2 hv5 hv7 hv9 hv10 hv27 hv28 hv29 hv32 hv33 hv37 hv38 hv39 hc17_3 hc157_11 hc172_15
        exact own_retZ X247 hx Bd.returns Bd.notSynchronized (hb hby at_280) (by decide) (by decide) (Or.inr hz249) ⟨by rw [hz249], N247⟩
  · obtain ⟨T250, h250, X250, e250, E250, A250, D250, -, st250⟩ := newO X103 hx hZ hown (hw _ (List.mem_of_getElem? (i := 0) rfl)) (hw _ (List.mem_of_getElem? (i := 1) rfl)) (hw _ (List.mem_of_getElem? (i := 2) rfl)) e103 (g := (mkF m 20 #[.val (.long q0), .second, .val (.long q1), .second, .val (.long q2), .second, .val (.long q3), .second, .val (.int p4), .val (.int v2), .unset, .unset, .unset, .unset, .unset, .unset, .unset, .unset, .unset, .unset, .unset, .unset, .unset, .unset, .unset, .unset, .unset, .unset] [])) rfl (hb hby at_20) (by decide) (by decide)
    obtain ⟨b250, g250⟩ : ∃ z, z = h0.size := ⟨_, rfl⟩
    rw [← g250] at A250 D250 st250
    have ne_ulc_b250 : ulc ≠ b250 := Nat.ne_of_lt (Nat.lt_of_lt_of_le A_lc.lt (Nat.le_of_eq g250.symm))
    have g_b250 : n0 ≤ b250 := Nat.le_trans Z0 (Nat.le_of_eq g250.symm)
    have sz_b250 : h0.size ≤ b250 := Nat.le_trans K0.1 (Nat.le_of_eq g250.symm)
    have F251 := S_lc.ext E250
    have F252 := A_lc.ext E250
    have Z253 : n0 ≤ h250.size := Nat.le_trans Z0 E250.1
    have K254 : Keep h0 h250 [] := K0.ext E250
    have F255 : Fld Z h250 b250 "com/example/millrace/millrace/queue/JournalClock" "latestMillis" "J" (.long (0 : Int64)) := D250 (Or.inl (hw _ (List.mem_of_getElem? (i := 11) rfl))) (ty := .long) (by decide)
    have F256 : Fld Z h250 b250 "com/example/millrace/millrace/queue/JournalClock" "millis" "J" (.long (0 : Int64)) := D250 (Or.inl (hw _ (List.mem_of_getElem? (i := 13) rfl))) (ty := .long) (by decide)
    have F257 : Fld Z h250 b250 "com/example/millrace/millrace/queue/JournalClock" "leadMillis" "J" (.long (0 : Int64)) := D250 (Or.inl (hw _ (List.mem_of_getElem? (i := 15) rfl))) (ty := .long) (by decide)
    obtain ⟨_, _, ⟨T258, L258, k258, n258⟩, -, X258, ⟨Lc258, hQ258, l258, y258, z258⟩, st258⟩ := X250.specialBack hx (y := (⟨"com/example/millrace/millrace/queue/JournalClock", "<init>", "()V"⟩ : MethodName)) rfl hown (mvT hZ (hw _ (List.mem_of_getElem? (i := 23) rfl))) (mvT hZ (hw _ (List.mem_of_getElem? (i := 24) rfl))) (mvT hZ (hw _ (List.mem_of_getElem? (i := 25) rfl))) (by decide) (backOf (W := 1) (rm4 l Z a0 hw [] b250 (0 : Int64) (0 : Int64) (0 : Int64) h250 n0 Z253 A250 F255 F256 F257 g_b250) hZ (hw _ (List.mem_of_getElem? (i := 25) rfl)) (hw _ (List.mem_of_getElem? (i := 2) rfl)) (by decide) (by decide)) (g := (mkF m 24 #[.val (.long q0), .second, .val (.long q1), .second, .val (.long q2), .second, .val (.long q3), .second, .val (.int p4), .val (.int v2), .unset, .unset, .unset, .unset, .unset, .unset, .unset, .unset, .unset, .unset, .unset, .unset, .unset, .unset, .unset, .unset, .unset, .unset] [(.ref b250), (.ref b250)])) rfl (by rw [hml]; rfl) (Steps.refl _) (a := b250) (argsL := []) (rest := [(.ref b250)]) (lenOf pd2 rfl) rfl (by show 2 * 0 + _ ≤ _; exact Nat.le_of_eq rfl) (hb hby at_24) (fun _ _ => ⟨rfl, e250, (by decide : 1 + 0 ≤ _), (by decide : 3 + 0 ≤ _)⟩)
    dsimp only [Pt.U, Pt.locs, Pt.cells, Pt.slots] at X258 l258 y258 z258 st258 hQ258
    subst l258 y258 z258
    obtain ⟨rfl, N258q, K258q, F258_0, F258_1, F258_2, F258_3⟩ := hQ258
    have F259 := own_staKeep F251 K258q (allS (own_plainE A250) all0)
    have F260 := F252.keep K258q (ninS ne_ulc_b250 nin0)
    have F261 := A250.keep K258q
    have Z262 : n0 ≤ T258.heap.size := Nat.le_trans Z253 K258q.1
    have K263 : Keep h0 T258.heap [] := K254.trans K258q (allS (Or.inr sz_b250) all0)
    have N258 := Fr.app N103 N258q
    obtain ⟨v41, hv41⟩ : ∃ z : Int64, z = (if (p4 &&& (1 : Int32)) = (0 : Int32) then (-9223372036854775808 : Int64) else q3) := ⟨_, rfl⟩
    obtain ⟨T266, lc266, X266, N266, e266, st266⟩ := own_mrg (n0 := n0) (h := T258.heap) (g := (mkF m 88 #[.val (.long q0), .second, .val (.long q1), .second, .val (.long q2), .second, .val (.long q3), .second, .val (.int p4), .val (.int v2), .val (.ref b250), .val (.long (-9223372036854775808 : Int64)), .second, .val (.long (-9223372036854775808 : Int64)), .second, .val (.long (0 : Int64)), .second, .unset, .unset, .unset, .unset, .unset, .unset, .unset, .unset, .unset, .unset, .unset] [(.int (p4 &&& (1 : Int32)))])) (g' := (mkF m 98 #[.val (.long q0), .second, .val (.long q1), .second, .val (.long q2), .second, .val (.long q3), .second, .val (.int p4), .val (.int v2), .val (.ref b250), .val (.long (-9223372036854775808 : Int64)), .second, .val (.long (-9223372036854775808 : Int64)), .second, .val (.long (0 : Int64)), .second, .unset, .unset, .unset, .unset, .unset, .unset, .unset, .unset, .unset, .unset, .unset] [(.long v41)])) X258 (by
      by_cases hc88_40 : (p4 &&& (1 : Int32)) = (0 : Int32)
      · have hgo264 : ∀ t, Steps p.tables e below (T258.setTop (mkF m 98 #[.val (.long q0), .second, .val (.long q1), .second, .val (.long q2), .second, .val (.long q3), .second, .val (.int p4), .val (.int v2), .val (.ref b250), .val (.long (-9223372036854775808 : Int64)), .second, .val (.long (-9223372036854775808 : Int64)), .second, .val (.long (0 : Int64)), .second, .unset, .unset, .unset, .unset, .unset, .unset, .unset, .unset, .unset, .unset, .unset] [(.long (-9223372036854775808 : Int64))])) t → Steps p.tables e below (T258.setTop (mkF m 88 #[.val (.long q0), .second, .val (.long q1), .second, .val (.long q2), .second, .val (.long q3), .second, .val (.int p4), .val (.int v2), .val (.ref b250), .val (.long (-9223372036854775808 : Int64)), .second, .val (.long (-9223372036854775808 : Int64)), .second, .val (.long (0 : Int64)), .second, .unset, .unset, .unset, .unset, .unset, .unset, .unset, .unset, .unset, .unset, .unset] [(.int (p4 &&& (1 : Int32)))])) t := by
          intro t kt
          show Steps p.tables e below (T258.setTop (mkF m 88 #[.val (.long q0), .second, .val (.long q1), .second, .val (.long q2), .second, .val (.long q3), .second, .val (.int p4), .val (.int v2), .val (.ref b250), .val (.long (-9223372036854775808 : Int64)), .second, .val (.long (-9223372036854775808 : Int64)), .second, .val (.long (0 : Int64)), .second, .unset, .unset, .unset, .unset, .unset, .unset, .unset, .unset, .unset, .unset, .unset] [(.int (p4 &&& (1 : Int32)))])) _
          refine XS.ifYes X258.here hx rfl (pc0 := 88) (pc' := 96) rfl (hb hby at_88) rfl ((if0 _ _).trans (teq hc88_40).1) (by decide) (by decide) ?_
          show Steps p.tables e below (T258.setTop (mkF m 96 #[.val (.long q0), .second, .val (.long q1), .second, .val (.long q2), .second, .val (.long q3), .second, .val (.int p4), .val (.int v2), .val (.ref b250), .val (.long (-9223372036854775808 : Int64)), .second, .val (.long (-9223372036854775808 : Int64)), .second, .val (.long (0 : Int64)), .second, .unset, .unset, .unset, .unset, .unset, .unset, .unset, .unset, .unset, .unset, .unset] [])) _
          refine XS.lload X258.here hx rfl (hb hby at_96) rfl ?_
          exact kt
        refine own_arm hgo264 ?_
        exact own_armEnd X258 N258 (rfl : T258.heap = T258.heap) (by rw [hv41.trans (if_pos hc88_40)])
      · have hgo265 : ∀ t, Steps p.tables e below (T258.setTop (mkF m 98 #[.val (.long q0), .second, .val (.long q1), .second, .val (.long q2), .second, .val (.long q3), .second, .val (.int p4), .val (.int v2), .val (.ref b250), .val (.long (-9223372036854775808 : Int64)), .second, .val (.long (-9223372036854775808 : Int64)), .second, .val (.long (0 : Int64)), .second, .unset, .unset, .unset, .unset, .unset, .unset, .unset, .unset, .unset, .unset, .unset] [(.long q3)])) t → Steps p.tables e below (T258.setTop (mkF m 88 #[.val (.long q0), .second, .val (.long q1), .second, .val (.long q2), .second, .val (.long q3), .second, .val (.int p4), .val (.int v2), .val (.ref b250), .val (.long (-9223372036854775808 : Int64)), .second, .val (.long (-9223372036854775808 : Int64)), .second, .val (.long (0 : Int64)), .second, .unset, .unset, .unset, .unset, .unset, .unset, .unset, .unset, .unset, .unset, .unset] [(.int (p4 &&& (1 : Int32)))])) t := by
          intro t kt
          show Steps p.tables e below (T258.setTop (mkF m 88 #[.val (.long q0), .second, .val (.long q1), .second, .val (.long q2), .second, .val (.long q3), .second, .val (.int p4), .val (.int v2), .val (.ref b250), .val (.long (-9223372036854775808 : Int64)), .second, .val (.long (-9223372036854775808 : Int64)), .second, .val (.long (0 : Int64)), .second, .unset, .unset, .unset, .unset, .unset, .unset, .unset, .unset, .unset, .unset, .unset] [(.int (p4 &&& (1 : Int32)))])) _
          refine XS.ifNo X258.here hx rfl (hb hby at_88) rfl ((if0 _ _).trans (feq hc88_40).1) ?_
          show Steps p.tables e below (T258.setTop (mkF m 91 #[.val (.long q0), .second, .val (.long q1), .second, .val (.long q2), .second, .val (.long q3), .second, .val (.int p4), .val (.int v2), .val (.ref b250), .val (.long (-9223372036854775808 : Int64)), .second, .val (.long (-9223372036854775808 : Int64)), .second, .val (.long (0 : Int64)), .second, .unset, .unset, .unset, .unset, .unset, .unset, .unset, .unset, .unset, .unset, .unset] [])) _
          refine XS.lload X258.here hx rfl (hb hby at_91) rfl ?_
          show Steps p.tables e below (T258.setTop (mkF m 93 #[.val (.long q0), .second, .val (.long q1), .second, .val (.long q2), .second, .val (.long q3), .second, .val (.int p4), .val (.int v2), .val (.ref b250), .val (.long (-9223372036854775808 : Int64)), .second, .val (.long (-9223372036854775808 : Int64)), .second, .val (.long (0 : Int64)), .second, .unset, .unset, .unset, .unset, .unset, .unset, .unset, .unset, .unset, .unset, .unset] [(.long q3)])) _
          refine XS.goto X258.here hx rfl (pc0 := 93) (pc' := 98) rfl (hb hby at_93) (by decide) (by decide) ?_
          exact kt
        refine own_arm hgo265 ?_
        exact own_armEnd X258 N258 (rfl : T258.heap = T258.heap) (by rw [hv41.trans (if_neg hc88_40)]))
    obtain ⟨v43, hv43⟩ : ∃ z : Int64, z = (if (p4 &&& (2 : Int32)) = (0 : Int32) then (-9223372036854775808 : Int64) else q3) := ⟨_, rfl⟩
    obtain ⟨T269, lc269, X269, N269, e269, st269⟩ := own_mrg (n0 := n0) (h := T258.heap) (g := (mkF m 104 #[.val (.long q0), .second, .val (.long q1), .second, .val (.long q2), .second, .val (.long q3), .second, .val (.int p4), .val (.int v2), .val (.ref b250), .val (.long (-9223372036854775808 : Int64)), .second, .val (.long (-9223372036854775808 : Int64)), .second, .val (.long (0 : Int64)), .second, .val (.long v41), .second, .unset, .unset, .unset, .unset, .unset, .unset, .unset, .unset, .unset] [(.int (p4 &&& (2 : Int32)))])) (g' := (mkF m 114 #[.val (.long q0), .second, .val (.long q1), .second, .val (.long q2), .second, .val (.long q3), .second, .val (.int p4), .val (.int v2), .val (.ref b250), .val (.long (-9223372036854775808 : Int64)), .second, .val (.long (-9223372036854775808 : Int64)), .second, .val (.long (0 : Int64)), .second, .val (.long v41), .second, .unset, .unset, .unset, .unset, .unset, .unset, .unset, .unset, .unset] [(.long v43)])) X266 (by
      by_cases hc104_42 : (p4 &&& (2 : Int32)) = (0 : Int32)
      · have hgo267 : ∀ t, Steps p.tables e below (T266.setTop (mkF m 114 #[.val (.long q0), .second, .val (.long q1), .second, .val (.long q2), .second, .val (.long q3), .second, .val (.int p4), .val (.int v2), .val (.ref b250), .val (.long (-9223372036854775808 : Int64)), .second, .val (.long (-9223372036854775808 : Int64)), .second, .val (.long (0 : Int64)), .second, .val (.long v41), .second, .unset, .unset, .unset, .unset, .unset, .unset, .unset, .unset, .unset] [(.long (-9223372036854775808 : Int64))])) t → Steps p.tables e below (T266.setTop (mkF m 104 #[.val (.long q0), .second, .val (.long q1), .second, .val (.long q2), .second, .val (.long q3), .second, .val (.int p4), .val (.int v2), .val (.ref b250), .val (.long (-9223372036854775808 : Int64)), .second, .val (.long (-9223372036854775808 : Int64)), .second, .val (.long (0 : Int64)), .second, .val (.long v41), .second, .unset, .unset, .unset, .unset, .unset, .unset, .unset, .unset, .unset] [(.int (p4 &&& (2 : Int32)))])) t := by
          intro t kt
          show Steps p.tables e below (T266.setTop (mkF m 104 #[.val (.long q0), .second, .val (.long q1), .second, .val (.long q2), .second, .val (.long q3), .second, .val (.int p4), .val (.int v2), .val (.ref b250), .val (.long (-9223372036854775808 : Int64)), .second, .val (.long (-9223372036854775808 : Int64)), .second, .val (.long (0 : Int64)), .second, .val (.long v41), .second, .unset, .unset, .unset, .unset, .unset, .unset, .unset, .unset, .unset] [(.int (p4 &&& (2 : Int32)))])) _
          refine XS.ifYes X266.here hx rfl (pc0 := 104) (pc' := 112) rfl (hb hby at_104) rfl ((if0 _ _).trans (teq hc104_42).1) (by decide) (by decide) ?_
          show Steps p.tables e below (T266.setTop (mkF m 112 #[.val (.long q0), .second, .val (.long q1), .second, .val (.long q2), .second, .val (.long q3), .second, .val (.int p4), .val (.int v2), .val (.ref b250), .val (.long (-9223372036854775808 : Int64)), .second, .val (.long (-9223372036854775808 : Int64)), .second, .val (.long (0 : Int64)), .second, .val (.long v41), .second, .unset, .unset, .unset, .unset, .unset, .unset, .unset, .unset, .unset] [])) _
          refine XS.lload X266.here hx rfl (hb hby at_112) rfl ?_
          exact kt
        refine own_arm hgo267 ?_
        exact own_armEnd X266 N266 e266 (by rw [hv43.trans (if_pos hc104_42)])
      · have hgo268 : ∀ t, Steps p.tables e below (T266.setTop (mkF m 114 #[.val (.long q0), .second, .val (.long q1), .second, .val (.long q2), .second, .val (.long q3), .second, .val (.int p4), .val (.int v2), .val (.ref b250), .val (.long (-9223372036854775808 : Int64)), .second, .val (.long (-9223372036854775808 : Int64)), .second, .val (.long (0 : Int64)), .second, .val (.long v41), .second, .unset, .unset, .unset, .unset, .unset, .unset, .unset, .unset, .unset] [(.long q3)])) t → Steps p.tables e below (T266.setTop (mkF m 104 #[.val (.long q0), .second, .val (.long q1), .second, .val (.long q2), .second, .val (.long q3), .second, .val (.int p4), .val (.int v2), .val (.ref b250), .val (.long (-9223372036854775808 : Int64)), .second, .val (.long (-9223372036854775808 : Int64)), .second, .val (.long (0 : Int64)), .second, .val (.long v41), .second, .unset, .unset, .unset, .unset, .unset, .unset, .unset, .unset, .unset] [(.int (p4 &&& (2 : Int32)))])) t := by
          intro t kt
          show Steps p.tables e below (T266.setTop (mkF m 104 #[.val (.long q0), .second, .val (.long q1), .second, .val (.long q2), .second, .val (.long q3), .second, .val (.int p4), .val (.int v2), .val (.ref b250), .val (.long (-9223372036854775808 : Int64)), .second, .val (.long (-9223372036854775808 : Int64)), .second, .val (.long (0 : Int64)), .second, .val (.long v41), .second, .unset, .unset, .unset, .unset, .unset, .unset, .unset, .unset, .unset] [(.int (p4 &&& (2 : Int32)))])) _
          refine XS.ifNo X266.here hx rfl (hb hby at_104) rfl ((if0 _ _).trans (feq hc104_42).1) ?_
          show Steps p.tables e below (T266.setTop (mkF m 107 #[.val (.long q0), .second, .val (.long q1), .second, .val (.long q2), .second, .val (.long q3), .second, .val (.int p4), .val (.int v2), .val (.ref b250), .val (.long (-9223372036854775808 : Int64)), .second, .val (.long (-9223372036854775808 : Int64)), .second, .val (.long (0 : Int64)), .second, .val (.long v41), .second, .unset, .unset, .unset, .unset, .unset, .unset, .unset, .unset, .unset] [])) _
          refine XS.lload X266.here hx rfl (hb hby at_107) rfl ?_
          show Steps p.tables e below (T266.setTop (mkF m 109 #[.val (.long q0), .second, .val (.long q1), .second, .val (.long q2), .second, .val (.long q3), .second, .val (.int p4), .val (.int v2), .val (.ref b250), .val (.long (-9223372036854775808 : Int64)), .second, .val (.long (-9223372036854775808 : Int64)), .second, .val (.long (0 : Int64)), .second, .val (.long v41), .second, .unset, .unset, .unset, .unset, .unset, .unset, .unset, .unset, .unset] [(.long q3)])) _
          refine XS.goto X266.here hx rfl (pc0 := 109) (pc' := 114) rfl (hb hby at_109) (by decide) (by decide) ?_
          exact kt
        refine own_arm hgo268 ?_
        exact own_armEnd X266 N266 e266 (by rw [hv43.trans (if_neg hc104_42)]))
    obtain ⟨v45, hv45⟩ : ∃ z : Int64, z = (if (p4 &&& (4 : Int32)) = (0 : Int32) then (0 : Int64) else q3) := ⟨_, rfl⟩
    obtain ⟨T272, lc272, X272, N272, e272, st272⟩ := own_mrg (n0 := n0) (h := T258.heap) (g := (mkF m 120 #[.val (.long q0), .second, .val (.long q1), .second, .val (.long q2), .second, .val (.long q3), .second, .val (.int p4), .val (.int v2), .val (.ref b250), .val (.long (-9223372036854775808 : Int64)), .second, .val (.long (-9223372036854775808 : Int64)), .second, .val (.long (0 : Int64)), .second, .val (.long v41), .second, .val (.long v43), .second, .unset, .unset, .unset, .unset, .unset, .unset, .unset] [(.int (p4 &&& (4 : Int32)))])) (g' := (mkF m 130 #[.val (.long q0), .second, .val (.long q1), .second, .val (.long q2), .second, .val (.long q3), .second, .val (.int p4), .val (.int v2), .val (.ref b250), .val (.long (-9223372036854775808 : Int64)), .second, .val (.long (-9223372036854775808 : Int64)), .second, .val (.long (0 : Int64)), .second, .val (.long v41), .second, .val (.long v43), .second, .unset, .unset, .unset, .unset, .unset, .unset, .unset] [(.long v45)])) X269 (by
      by_cases hc120_44 : (p4 &&& (4 : Int32)) = (0 : Int32)
      · have hgo270 : ∀ t, Steps p.tables e below (T269.setTop (mkF m 130 #[.val (.long q0), .second, .val (.long q1), .second, .val (.long q2), .second, .val (.long q3), .second, .val (.int p4), .val (.int v2), .val (.ref b250), .val (.long (-9223372036854775808 : Int64)), .second, .val (.long (-9223372036854775808 : Int64)), .second, .val (.long (0 : Int64)), .second, .val (.long v41), .second, .val (.long v43), .second, .unset, .unset, .unset, .unset, .unset, .unset, .unset] [(.long (0 : Int64))])) t → Steps p.tables e below (T269.setTop (mkF m 120 #[.val (.long q0), .second, .val (.long q1), .second, .val (.long q2), .second, .val (.long q3), .second, .val (.int p4), .val (.int v2), .val (.ref b250), .val (.long (-9223372036854775808 : Int64)), .second, .val (.long (-9223372036854775808 : Int64)), .second, .val (.long (0 : Int64)), .second, .val (.long v41), .second, .val (.long v43), .second, .unset, .unset, .unset, .unset, .unset, .unset, .unset] [(.int (p4 &&& (4 : Int32)))])) t := by
          intro t kt
          show Steps p.tables e below (T269.setTop (mkF m 120 #[.val (.long q0), .second, .val (.long q1), .second, .val (.long q2), .second, .val (.long q3), .second, .val (.int p4), .val (.int v2), .val (.ref b250), .val (.long (-9223372036854775808 : Int64)), .second, .val (.long (-9223372036854775808 : Int64)), .second, .val (.long (0 : Int64)), .second, .val (.long v41), .second, .val (.long v43), .second, .unset, .unset, .unset, .unset, .unset, .unset, .unset] [(.int (p4 &&& (4 : Int32)))])) _
          refine XS.ifYes X269.here hx rfl (pc0 := 120) (pc' := 128) rfl (hb hby at_120) rfl ((if0 _ _).trans (teq hc120_44).1) (by decide) (by decide) ?_
          show Steps p.tables e below (T269.setTop (mkF m 128 #[.val (.long q0), .second, .val (.long q1), .second, .val (.long q2), .second, .val (.long q3), .second, .val (.int p4), .val (.int v2), .val (.ref b250), .val (.long (-9223372036854775808 : Int64)), .second, .val (.long (-9223372036854775808 : Int64)), .second, .val (.long (0 : Int64)), .second, .val (.long v41), .second, .val (.long v43), .second, .unset, .unset, .unset, .unset, .unset, .unset, .unset] [])) _
          refine XS.lload X269.here hx rfl (hb hby at_128) rfl ?_
          exact kt
        refine own_arm hgo270 ?_
        exact own_armEnd X269 N269 e269 (by rw [hv45.trans (if_pos hc120_44)])
      · have hgo271 : ∀ t, Steps p.tables e below (T269.setTop (mkF m 130 #[.val (.long q0), .second, .val (.long q1), .second, .val (.long q2), .second, .val (.long q3), .second, .val (.int p4), .val (.int v2), .val (.ref b250), .val (.long (-9223372036854775808 : Int64)), .second, .val (.long (-9223372036854775808 : Int64)), .second, .val (.long (0 : Int64)), .second, .val (.long v41), .second, .val (.long v43), .second, .unset, .unset, .unset, .unset, .unset, .unset, .unset] [(.long q3)])) t → Steps p.tables e below (T269.setTop (mkF m 120 #[.val (.long q0), .second, .val (.long q1), .second, .val (.long q2), .second, .val (.long q3), .second, .val (.int p4), .val (.int v2), .val (.ref b250), .val (.long (-9223372036854775808 : Int64)), .second, .val (.long (-9223372036854775808 : Int64)), .second, .val (.long (0 : Int64)), .second, .val (.long v41), .second, .val (.long v43), .second, .unset, .unset, .unset, .unset, .unset, .unset, .unset] [(.int (p4 &&& (4 : Int32)))])) t := by
          intro t kt
          show Steps p.tables e below (T269.setTop (mkF m 120 #[.val (.long q0), .second, .val (.long q1), .second, .val (.long q2), .second, .val (.long q3), .second, .val (.int p4), .val (.int v2), .val (.ref b250), .val (.long (-9223372036854775808 : Int64)), .second, .val (.long (-9223372036854775808 : Int64)), .second, .val (.long (0 : Int64)), .second, .val (.long v41), .second, .val (.long v43), .second, .unset, .unset, .unset, .unset, .unset, .unset, .unset] [(.int (p4 &&& (4 : Int32)))])) _
          refine XS.ifNo X269.here hx rfl (hb hby at_120) rfl ((if0 _ _).trans (feq hc120_44).1) ?_
          show Steps p.tables e below (T269.setTop (mkF m 123 #[.val (.long q0), .second, .val (.long q1), .second, .val (.long q2), .second, .val (.long q3), .second, .val (.int p4), .val (.int v2), .val (.ref b250), .val (.long (-9223372036854775808 : Int64)), .second, .val (.long (-9223372036854775808 : Int64)), .second, .val (.long (0 : Int64)), .second, .val (.long v41), .second, .val (.long v43), .second, .unset, .unset, .unset, .unset, .unset, .unset, .unset] [])) _
          refine XS.lload X269.here hx rfl (hb hby at_123) rfl ?_
          show Steps p.tables e below (T269.setTop (mkF m 125 #[.val (.long q0), .second, .val (.long q1), .second, .val (.long q2), .second, .val (.long q3), .second, .val (.int p4), .val (.int v2), .val (.ref b250), .val (.long (-9223372036854775808 : Int64)), .second, .val (.long (-9223372036854775808 : Int64)), .second, .val (.long (0 : Int64)), .second, .val (.long v41), .second, .val (.long v43), .second, .unset, .unset, .unset, .unset, .unset, .unset, .unset] [(.long q3)])) _
          refine XS.goto X269.here hx rfl (pc0 := 125) (pc' := 130) rfl (hb hby at_125) (by decide) (by decide) ?_
          exact kt
        refine own_arm hgo271 ?_
        exact own_armEnd X269 N269 e269 (by rw [hv45.trans (if_neg hc120_44)]))
    obtain ⟨T273, h273, X273, e273, E273, A273, D273, -, st273⟩ := newO X272 hx hZ hown (hw _ (List.mem_of_getElem? (i := 0) rfl)) (hw _ (List.mem_of_getElem? (i := 1) rfl)) (hw _ (List.mem_of_getElem? (i := 2) rfl)) e272 (g := (mkF m 132 #[.val (.long q0), .second, .val (.long q1), .second, .val (.long q2), .second, .val (.long q3), .second, .val (.int p4), .val (.int v2), .val (.ref b250), .val (.long (-9223372036854775808 : Int64)), .second, .val (.long (-9223372036854775808 : Int64)), .second, .val (.long (0 : Int64)), .second, .val (.long v41), .second, .val (.long v43), .second, .val (.long v45), .second, .unset, .unset, .unset, .unset, .unset] [])) rfl (hb hby at_132) (by decide) (by decide)
    obtain ⟨b273, g273⟩ : ∃ z, z = T258.heap.size := ⟨_, rfl⟩
    rw [← g273] at A273 D273 st273
    have ne_ulc_b273 : ulc ≠ b273 := Nat.ne_of_lt (Nat.lt_of_lt_of_le F260.lt (Nat.le_of_eq g273.symm))
    have ne_b250_b273 : b250 ≠ b273 := Nat.ne_of_lt (Nat.lt_of_lt_of_le F258_0.lt (Nat.le_of_eq g273.symm))
    have g_b273 : n0 ≤ b273 := Nat.le_trans Z262 (Nat.le_of_eq g273.symm)
    have sz_b273 : h0.size ≤ b273 := Nat.le_trans K263.1 (Nat.le_of_eq g273.symm)
    have F274 := F259.ext E273
    have F275 := F260.ext E273
    have F276 := F258_0.ext E273
    have F277 := F258_1.ext E273
    have F278 := F258_2.ext E273
    have F279 := F258_3.ext E273
    have Z280 : n0 ≤ h273.size := Nat.le_trans Z262 E273.1
    have K281 : Keep h0 h273 [] := K263.ext E273
    have F282 : Fld Z h273 b273 "com/example/millrace/millrace/queue/JournalClock" "latestMillis" "J" (.long (0 : Int64)) := D273 (Or.inl (hw _ (List.mem_of_getElem? (i := 11) rfl))) (ty := .long) (by decide)
    have F283 : Fld Z h273 b273 "com/example/millrace/millrace/queue/JournalClock" "millis" "J" (.long (0 : Int64)) := D273 (Or.inl (hw _ (List.mem_of_getElem? (i := 13) rfl))) (ty := .long) (by decide)
    have F284 : Fld Z h273 b273 "com/example/millrace/millrace/queue/JournalClock" "leadMillis" "J" (.long (0 : Int64)) := D273 (Or.inl (hw _ (List.mem_of_getElem? (i := 15) rfl))) (ty := .long) (by decide)
    obtain ⟨_, _, ⟨T285, L285, k285, n285⟩, -, X285, ⟨Lc285, hQ285, l285, y285, z285⟩, st285⟩ := X273.specialBack hx (y := (⟨"com/example/millrace/millrace/queue/JournalClock", "<init>", "(JJJ)V"⟩ : MethodName)) rfl hown (mvT hZ (hw _ (List.mem_of_getElem? (i := 3) rfl))) (mvT hZ (hw _ (List.mem_of_getElem? (i := 4) rfl))) (mvT hZ (hw _ (List.mem_of_getElem? (i := 5) rfl))) (by decide) (backOf (W := 1) (rm1 l Z a0 hw [] b273 v41 v43 v45 (0 : Int64) (0 : Int64) (0 : Int64) h273 n0 Z280 A273 F282 F283 F284 g_b273) hZ (hw _ (List.mem_of_getElem? (i := 5) rfl)) (hw _ (List.mem_of_getElem? (i := 2) rfl)) (by decide) (by decide)) (g := (mkF m 142 #[.val (.long q0), .second, .val (.long q1), .second, .val (.long q2), .second, .val (.long q3), .second, .val (.int p4), .val (.int v2), .val (.ref b250), .val (.long (-9223372036854775808 : Int64)), .second, .val (.long (-9223372036854775808 : Int64)), .second, .val (.long (0 : Int64)), .second, .val (.long v41), .second, .val (.long v43), .second, .val (.long v45), .second, .unset, .unset, .unset, .unset, .unset] [(.long v45), (.long v43), (.long v41), (.ref b273), (.ref b273)])) rfl (by rw [hml]; rfl) (Steps.refl _) (a := b273) (argsL := [(.long v41), (.long v43), (.long v45)]) (rest := [(.ref b273)]) (lenOf pd5 rfl) rfl (by show 2 * 0 + _ ≤ _; exact Nat.le_of_eq rfl) (hb hby at_142) (fun _ _ => ⟨rfl, e273, (by decide : 2 + 0 ≤ _), (by decide : 6 + 0 ≤ _)⟩)
    dsimp only [Pt.U, Pt.locs, Pt.cells, Pt.slots] at X285 l285 y285 z285 st285 hQ285
    subst l285 y285 z285
    obtain ⟨rfl, N285q, K285q, F285_0, F285_1, F285_2, F285_3⟩ := hQ285
    have F286 := own_staKeep F274 K285q (allS (own_plainE A273) all0)
    have F287 := F275.keep K285q (ninS ne_ulc_b273 nin0)
    have F288 := F276.keep K285q
    have F289 := F277.keep K285q (ninS ne_b250_b273 nin0)
    have F290 := F278.keep K285q (ninS ne_b250_b273 nin0)
    have F291 := F279.keep K285q (ninS ne_b250_b273 nin0)
    have F292 := A273.keep K285q
    have Z293 : n0 ≤ T285.heap.size := Nat.le_trans Z280 K285q.1
    have K294 : Keep h0 T285.heap [] := K281.trans K285q (allS (Or.inr sz_b273) all0)
    have N285 := Fr.app N272 N285q
    obtain ⟨v46, hv46⟩ : ∃ z : Int32, z = (((p4.toUInt32 >>> ((4 : Int32) &&& 31).toUInt32).toInt32) &&& (3 : Int32)) := ⟨_, rfl⟩
    have hgo297 : ∀ t, Steps p.tables e below (T285.setTop (mkF m 157 #[.val (.long q0), .second, .val (.long q1), .second, .val (.long q2), .second, .val (.long q3), .second, .val (.int p4), .val (.int v2), .val (.ref b250), .val (.long (-9223372036854775808 : Int64)), .second, .val (.long (-9223372036854775808 : Int64)), .second, .val (.long (0 : Int64)), .second, .val (.long v41), .second, .val (.long v43), .second, .val (.long v45), .second, .val (.ref b273), .val (.int v46), .unset, .unset, .unset] [(.int v46)])) t → Steps p.tables e below (T103.setTop (mkF m 17 #[.val (.long q0), .second, .val (.long q1), .second, .val (.long q2), .second, .val (.long q3), .second, .val (.int p4), .val (.int v2), .unset, .unset, .unset, .unset, .unset, .unset, .unset, .unset, .unset, .unset, .unset, .unset, .unset, .unset, .unset, .unset, .unset, .unset] [(.int v2)])) t := by
      intro t kt
      show Steps p.tables e below (T103.setTop (mkF m 17 #[.val (.long q0), .second, .val (.long q1), .second, .val (.long q2), .second, .val (.long q3), .second, .val (.int p4), .val (.int v2), .unset, .unset, .unset, .unset, .unset, .unset, .unset, .unset, .unset, .unset, .unset, .unset, .unset, .unset, .unset, .unset, .unset, .unset] [(.int v2)])) _
      refine XS.ifNo X103.here hx rfl (hb hby at_17) rfl ((if0 _ _).trans (feq hc17_3).1) ?_
      show Steps p.tables e below (T103.setTop (mkF m 20 #[.val (.long q0), .second, .val (.long q1), .second, .val (.long q2), .second, .val (.long q3), .second, .val (.int p4), .val (.int v2), .unset, .unset, .unset, .unset, .unset, .unset, .unset, .unset, .unset, .unset, .unset, .unset, .unset, .unset, .unset, .unset, .unset, .unset] [])) _
      refine st250 _ ?_
      show Steps p.tables e below (T250.setTop (mkF m 23 #[.val (.long q0), .second, .val (.long q1), .second, .val (.long q2), .second, .val (.long q3), .second, .val (.int p4), .val (.int v2), .unset, .unset, .unset, .unset, .unset, .unset, .unset, .unset, .unset, .unset, .unset, .unset, .unset, .unset, .unset, .unset, .unset, .unset] [(.ref b250)])) _
      refine XS.dup X250.here hx rfl (hb hby at_23) rfl rfl ?_
      show Steps p.tables e below (T250.setTop (mkF m 24 #[.val (.long q0), .second, .val (.long q1), .second, .val (.long q2), .second, .val (.long q3), .second, .val (.int p4), .val (.int v2), .unset, .unset, .unset, .unset, .unset, .unset, .unset, .unset, .unset, .unset, .unset, .unset, .unset, .unset, .unset, .unset, .unset, .unset] [(.ref b250), (.ref b250)])) _
      refine st258.trans ?_
      show Steps p.tables e below (T258.setTop (mkF m 27 #[.val (.long q0), .second, .val (.long q1), .second, .val (.long q2), .second, .val (.long q3), .second, .val (.int p4), .val (.int v2), .unset, .unset, .unset, .unset, .unset, .unset, .unset, .unset, .unset, .unset, .unset, .unset, .unset, .unset, .unset, .unset, .unset, .unset] [(.ref b250)])) _
      refine XS.goto X258.here hx rfl (pc0 := 27) (pc' := 41) rfl (hb hby at_27) (by decide) (by decide) ?_
      show Steps p.tables e below (T258.setTop (mkF m 41 #[.val (.long q0), .second, .val (.long q1), .second, .val (.long q2), .second, .val (.long q3), .second, .val (.int p4), .val (.int v2), .unset, .unset, .unset, .unset, .unset, .unset, .unset, .unset, .unset, .unset, .unset, .unset, .unset, .unset, .unset, .unset, .unset, .unset] [(.ref b250)])) _
      refine XS.astore X258.here hx rfl (hb hby at_41) rfl rfl (l' := #[.val (.long q0), .second, .val (.long q1), .second, .val (.long q2), .second, .val (.long q3), .second, .val (.int p4), .val (.int v2), .val (.ref b250), .unset, .unset, .unset, .unset, .unset, .unset, .unset, .unset, .unset, .unset, .unset, .unset, .unset, .unset, .unset, .unset, .unset]) rfl ?_
      show Steps p.tables e below (T258.setTop (mkF m 43 #[.val (.long q0), .second, .val (.long q1), .second, .val (.long q2), .second, .val (.long q3), .second, .val (.int p4), .val (.int v2), .val (.ref b250), .unset, .unset, .unset, .unset, .unset, .unset, .unset, .unset, .unset, .unset, .unset, .unset, .unset, .unset, .unset, .unset, .unset] [])) _
      refine XS.iload X258.here hx rfl (hb hby at_43) rfl ?_
      show Steps p.tables e below (T258.setTop (mkF m 45 #[.val (.long q0), .second, .val (.long q1), .second, .val (.long q2), .second, .val (.long q3), .second, .val (.int p4), .val (.int v2), .val (.ref b250), .unset, .unset, .unset, .unset, .unset, .unset, .unset, .unset, .unset, .unset, .unset, .unset, .unset, .unset, .unset, .unset, .unset] [(.int v2)])) _
      refine XS.ifNo X258.here hx rfl (hb hby at_45) rfl ((if0 _ _).trans (feq hc17_3).1) ?_
      show Steps p.tables e below (T258.setTop (mkF m 48 #[.val (.long q0), .second, .val (.long q1), .second, .val (.long q2), .second, .val (.long q3), .second, .val (.int p4), .val (.int v2), .val (.ref b250), .unset, .unset, .unset, .unset, .unset, .unset, .unset, .unset, .unset, .unset, .unset, .unset, .unset, .unset, .unset, .unset, .unset] [])) _
      refine X258.ldc2Long hx hown (mvT hZ (hw _ (List.mem_of_getElem? (i := 26) rfl))) (g := (mkF m 48 #[.val (.long q0), .second, .val (.long q1), .second, .val (.long q2), .second, .val (.long q3), .second, .val (.int p4), .val (.int v2), .val (.ref b250), .unset, .unset, .unset, .unset, .unset, .unset, .unset, .unset, .unset, .unset, .unset, .unset, .unset, .unset, .unset, .unset, .unset] [])) rfl (hb hby at_48) _ ?_
      show Steps p.tables e below (T258.setTop (mkF m 51 #[.val (.long q0), .second, .val (.long q1), .second, .val (.long q2), .second, .val (.long q3), .second, .val (.int p4), .val (.int v2), .val (.ref b250), .unset, .unset, .unset, .unset, .unset, .unset, .unset, .unset, .unset, .unset, .unset, .unset, .unset, .unset, .unset, .unset, .unset] [(.long (-9223372036854775808 : Int64))])) _
      refine XS.goto X258.here hx rfl (pc0 := 51) (pc' := 55) rfl (hb hby at_51) (by decide) (by decide) ?_
      show Steps p.tables e below (T258.setTop (mkF m 55 #[.val (.long q0), .second, .val (.long q1), .second, .val (.long q2), .second, .val (.long q3), .second, .val (.int p4), .val (.int v2), .val (.ref b250), .unset, .unset, .unset, .unset, .unset, .unset, .unset, .unset, .unset, .unset, .unset, .unset, .unset, .unset, .unset, .unset, .unset] [(.long (-9223372036854775808 : Int64))])) _
      refine XS.lstore X258.here hx rfl (hb hby at_55) rfl (l' := #[.val (.long q0), .second, .val (.long q1), .second, .val (.long q2), .second, .val (.long q3), .second, .val (.int p4), .val (.int v2), .val (.ref b250), .val (.long (-9223372036854775808 : Int64)), .second, .unset, .unset, .unset, .unset, .unset, .unset, .unset, .unset, .unset, .unset, .unset, .unset, .unset, .unset, .unset]) rfl ?_
      show Steps p.tables e below (T258.setTop (mkF m 57 #[.val (.long q0), .second, .val (.long q1), .second, .val (.long q2), .second, .val (.long q3), .second, .val (.int p4), .val (.int v2), .val (.ref b250), .val (.long (-9223372036854775808 : Int64)), .second, .unset, .unset, .unset, .unset, .unset, .unset, .unset, .unset, .unset, .unset, .unset, .unset, .unset, .unset, .unset] [])) _
      refine XS.iload X258.here hx rfl (hb hby at_57) rfl ?_
      show Steps p.tables e below (T258.setTop (mkF m 59 #[.val (.long q0), .second, .val (.long q1), .second, .val (.long q2), .second, .val (.long q3), .second, .val (.int p4), .val (.int v2), .val (.ref b250), .val (.long (-9223372036854775808 : Int64)), .second, .unset, .unset, .unset, .unset, .unset, .unset, .unset, .unset, .unset, .unset, .unset, .unset, .unset, .unset, .unset] [(.int v2)])) _
      refine XS.ifNo X258.here hx rfl (hb hby at_59) rfl ((if0 _ _).trans (feq hc17_3).1) ?_
      show Steps p.tables e below (T258.setTop (mkF m 62 #[.val (.long q0), .second, .val (.long q1), .second, .val (.long q2), .second, .val (.long q3), .second, .val (.int p4), .val (.int v2), .val (.ref b250), .val (.long (-9223372036854775808 : Int64)), .second, .unset, .unset, .unset, .unset, .unset, .unset, .unset, .unset, .unset, .unset, .unset, .unset, .unset, .unset, .unset] [])) _
      refine X258.ldc2Long hx hown (mvT hZ (hw _ (List.mem_of_getElem? (i := 26) rfl))) (g := (mkF m 62 #[.val (.long q0), .second, .val (.long q1), .second, .val (.long q2), .second, .val (.long q3), .second, .val (.int p4), .val (.int v2), .val (.ref b250), .val (.long (-9223372036854775808 : Int64)), .second, .unset, .unset, .unset, .unset, .unset, .unset, .unset, .unset, .unset, .unset, .unset, .unset, .unset, .unset, .unset] [])) rfl (hb hby at_62) _ ?_
      show Steps p.tables e below (T258.setTop (mkF m 65 #[.val (.long q0), .second, .val (.long q1), .second, .val (.long q2), .second, .val (.long q3), .second, .val (.int p4), .val (.int v2), .val (.ref b250), .val (.long (-9223372036854775808 : Int64)), .second, .unset, .unset, .unset, .unset, .unset, .unset, .unset, .unset, .unset, .unset, .unset, .unset, .unset, .unset, .unset] [(.long (-9223372036854775808 : Int64))])) _
      refine XS.goto X258.here hx rfl (pc0 := 65) (pc' := 69) rfl (hb hby at_65) (by decide) (by decide) ?_
      show Steps p.tables e below (T258.setTop (mkF m 69 #[.val (.long q0), .second, .val (.long q1), .second, .val (.long q2), .second, .val (.long q3), .second, .val (.int p4), .val (.int v2), .val (.ref b250), .val (.long (-9223372036854775808 : Int64)), .second, .unset, .unset, .unset, .unset, .unset, .unset, .unset, .unset, .unset, .unset, .unset, .unset, .unset, .unset, .unset] [(.long (-9223372036854775808 : Int64))])) _
      refine XS.lstore X258.here hx rfl (hb hby at_69) rfl (l' := #[.val (.long q0), .second, .val (.long q1), .second, .val (.long q2), .second, .val (.long q3), .second, .val (.int p4), .val (.int v2), .val (.ref b250), .val (.long (-9223372036854775808 : Int64)), .second, .val (.long (-9223372036854775808 : Int64)), .second, .unset, .unset, .unset, .unset, .unset, .unset, .unset, .unset, .unset, .unset, .unset, .unset, .unset]) rfl ?_
      show Steps p.tables e below (T258.setTop (mkF m 71 #[.val (.long q0), .second, .val (.long q1), .second, .val (.long q2), .second, .val (.long q3), .second, .val (.int p4), .val (.int v2), .val (.ref b250), .val (.long (-9223372036854775808 : Int64)), .second, .val (.long (-9223372036854775808 : Int64)), .second, .unset, .unset, .unset, .unset, .unset, .unset, .unset, .unset, .unset, .unset, .unset, .unset, .unset] [])) _
      refine XS.iload X258.here hx rfl (hb hby at_71) rfl ?_
      show Steps p.tables e below (T258.setTop (mkF m 73 #[.val (.long q0), .second, .val (.long q1), .second, .val (.long q2), .second, .val (.long q3), .second, .val (.int p4), .val (.int v2), .val (.ref b250), .val (.long (-9223372036854775808 : Int64)), .second, .val (.long (-9223372036854775808 : Int64)), .second, .unset, .unset, .unset, .unset, .unset, .unset, .unset, .unset, .unset, .unset, .unset, .unset, .unset] [(.int v2)])) _
      refine XS.ifNo X258.here hx rfl (hb hby at_73) rfl ((if0 _ _).trans (feq hc17_3).1) ?_
      show Steps p.tables e below (T258.setTop (mkF m 76 #[.val (.long q0), .second, .val (.long q1), .second, .val (.long q2), .second, .val (.long q3), .second, .val (.int p4), .val (.int v2), .val (.ref b250), .val (.long (-9223372036854775808 : Int64)), .second, .val (.long (-9223372036854775808 : Int64)), .second, .unset, .unset, .unset, .unset, .unset, .unset, .unset, .unset, .unset, .unset, .unset, .unset, .unset] [])) _
      refine XS.lconst X258.here hx rfl (hb hby at_76) ?_
      show Steps p.tables e below (T258.setTop (mkF m 77 #[.val (.long q0), .second, .val (.long q1), .second, .val (.long q2), .second, .val (.long q3), .second, .val (.int p4), .val (.int v2), .val (.ref b250), .val (.long (-9223372036854775808 : Int64)), .second, .val (.long (-9223372036854775808 : Int64)), .second, .unset, .unset, .unset, .unset, .unset, .unset, .unset, .unset, .unset, .unset, .unset, .unset, .unset] [(.long (0 : Int64))])) _
      refine XS.goto X258.here hx rfl (pc0 := 77) (pc' := 82) rfl (hb hby at_77) (by decide) (by decide) ?_
      show Steps p.tables e below (T258.setTop (mkF m 82 #[.val (.long q0), .second, .val (.long q1), .second, .val (.long q2), .second, .val (.long q3), .second, .val (.int p4), .val (.int v2), .val (.ref b250), .val (.long (-9223372036854775808 : Int64)), .second, .val (.long (-9223372036854775808 : Int64)), .second, .unset, .unset, .unset, .unset, .unset, .unset, .unset, .unset, .unset, .unset, .unset, .unset, .unset] [(.long (0 : Int64))])) _
      refine XS.lstore X258.here hx rfl (hb hby at_82) rfl (l' := #[.val (.long q0), .second, .val (.long q1), .second, .val (.long q2), .second, .val (.long q3), .second, .val (.int p4), .val (.int v2), .val (.ref b250), .val (.long (-9223372036854775808 : Int64)), .second, .val (.long (-9223372036854775808 : Int64)), .second, .val (.long (0 : Int64)), .second, .unset, .unset, .unset, .unset, .unset, .unset, .unset, .unset, .unset, .unset, .unset]) rfl ?_
      show Steps p.tables e below (T258.setTop (mkF m 84 #[.val (.long q0), .second, .val (.long q1), .second, .val (.long q2), .second, .val (.long q3), .second, .val (.int p4), .val (.int v2), .val (.ref b250), .val (.long (-9223372036854775808 : Int64)), .second, .val (.long (-9223372036854775808 : Int64)), .second, .val (.long (0 : Int64)), .second, .unset, .unset, .unset, .unset, .unset, .unset, .unset, .unset, .unset, .unset, .unset] [])) _
      refine XS.iload X258.here hx rfl (hb hby at_84) rfl ?_
      show Steps p.tables e below (T258.setTop (mkF m 86 #[.val (.long q0), .second, .val (.long q1), .second, .val (.long q2), .second, .val (.long q3), .second, .val (.int p4), .val (.int v2), .val (.ref b250), .val (.long (-9223372036854775808 : Int64)), .second, .val (.long (-9223372036854775808 : Int64)), .second, .val (.long (0 : Int64)), .second, .unset, .unset, .unset, .unset, .unset, .unset, .unset, .unset, .unset, .unset, .unset] [(.int p4)])) _
      refine XS.iconst X258.here hx rfl (hb hby at_86) ?_
      show Steps p.tables e below (T258.setTop (mkF m 87 #[.val (.long q0), .second, .val (.long q1), .second, .val (.long q2), .second, .val (.long q3), .second, .val (.int p4), .val (.int v2), .val (.ref b250), .val (.long (-9223372036854775808 : Int64)), .second, .val (.long (-9223372036854775808 : Int64)), .second, .val (.long (0 : Int64)), .second, .unset, .unset, .unset, .unset, .unset, .unset, .unset, .unset, .unset, .unset, .unset] [(.int (1 : Int32)), (.int p4)])) _
      refine XS.iand X258.here hx rfl (hb hby at_87) rfl ?_
      show Steps p.tables e below (T258.setTop (mkF m 88 #[.val (.long q0), .second, .val (.long q1), .second, .val (.long q2), .second, .val (.long q3), .second, .val (.int p4), .val (.int v2), .val (.ref b250), .val (.long (-9223372036854775808 : Int64)), .second, .val (.long (-9223372036854775808 : Int64)), .second, .val (.long (0 : Int64)), .second, .unset, .unset, .unset, .unset, .unset, .unset, .unset, .unset, .unset, .unset, .unset] [(.int (p4 &&& (1 : Int32)))])) _
      refine st266 _ ?_
      show Steps p.tables e below (T266.setTop (mkF m 98 #[.val (.long q0), .second, .val (.long q1), .second, .val (.long q2), .second, .val (.long q3), .second, .val (.int p4), .val (.int v2), .val (.ref b250), .val (.long (-9223372036854775808 : Int64)), .second, .val (.long (-9223372036854775808 : Int64)), .second, .val (.long (0 : Int64)), .second, .unset, .unset, .unset, .unset, .unset, .unset, .unset, .unset, .unset, .unset, .unset] [(.long v41)])) _
      refine XS.lstore X266.here hx rfl (hb hby at_98) rfl (l' := #[.val (.long q0), .second, .val (.long q1), .second, .val (.long q2), .second, .val (.long q3), .second, .val (.int p4), .val (.int v2), .val (.ref b250), .val (.long (-9223372036854775808 : Int64)), .second, .val (.long (-9223372036854775808 : Int64)), .second, .val (.long (0 : Int64)), .second, .val (.long v41), .second, .unset, .unset, .unset, .unset, .unset, .unset, .unset, .unset, .unset]) rfl ?_
      show Steps p.tables e below (T266.setTop (mkF m 100 #[.val (.long q0), .second, .val (.long q1), .second, .val (.long q2), .second, .val (.long q3), .second, .val (.int p4), .val (.int v2), .val (.ref b250), .val (.long (-9223372036854775808 : Int64)), .second, .val (.long (-9223372036854775808 : Int64)), .second, .val (.long (0 : Int64)), .second, .val (.long v41), .second, .unset, .unset, .unset, .unset, .unset, .unset, .unset, .unset, .unset] [])) _
      refine XS.iload X266.here hx rfl (hb hby at_100) rfl ?_
      show Steps p.tables e below (T266.setTop (mkF m 102 #[.val (.long q0), .second, .val (.long q1), .second, .val (.long q2), .second, .val (.long q3), .second, .val (.int p4), .val (.int v2), .val (.ref b250), .val (.long (-9223372036854775808 : Int64)), .second, .val (.long (-9223372036854775808 : Int64)), .second, .val (.long (0 : Int64)), .second, .val (.long v41), .second, .unset, .unset, .unset, .unset, .unset, .unset, .unset, .unset, .unset] [(.int p4)])) _
      refine XS.iconst X266.here hx rfl (hb hby at_102) ?_
      show Steps p.tables e below (T266.setTop (mkF m 103 #[.val (.long q0), .second, .val (.long q1), .second, .val (.long q2), .second, .val (.long q3), .second, .val (.int p4), .val (.int v2), .val (.ref b250), .val (.long (-9223372036854775808 : Int64)), .second, .val (.long (-9223372036854775808 : Int64)), .second, .val (.long (0 : Int64)), .second, .val (.long v41), .second, .unset, .unset, .unset, .unset, .unset, .unset, .unset, .unset, .unset] [(.int (2 : Int32)), (.int p4)])) _
      refine XS.iand X266.here hx rfl (hb hby at_103) rfl ?_
      show Steps p.tables e below (T266.setTop (mkF m 104 #[.val (.long q0), .second, .val (.long q1), .second, .val (.long q2), .second, .val (.long q3), .second, .val (.int p4), .val (.int v2), .val (.ref b250), .val (.long (-9223372036854775808 : Int64)), .second, .val (.long (-9223372036854775808 : Int64)), .second, .val (.long (0 : Int64)), .second, .val (.long v41), .second, .unset, .unset, .unset, .unset, .unset, .unset, .unset, .unset, .unset] [(.int (p4 &&& (2 : Int32)))])) _
      refine st269 _ ?_
      show Steps p.tables e below (T269.setTop (mkF m 114 #[.val (.long q0), .second, .val (.long q1), .second, .val (.long q2), .second, .val (.long q3), .second, .val (.int p4), .val (.int v2), .val (.ref b250), .val (.long (-9223372036854775808 : Int64)), .second, .val (.long (-9223372036854775808 : Int64)), .second, .val (.long (0 : Int64)), .second, .val (.long v41), .second, .unset, .unset, .unset, .unset, .unset, .unset, .unset, .unset, .unset] [(.long v43)])) _
      refine XS.lstore X269.here hx rfl (hb hby at_114) rfl (l' := #[.val (.long q0), .second, .val (.long q1), .second, .val (.long q2), .second, .val (.long q3), .second, .val (.int p4), .val (.int v2), .val (.ref b250), .val (.long (-9223372036854775808 : Int64)), .second, .val (.long (-9223372036854775808 : Int64)), .second, .val (.long (0 : Int64)), .second, .val (.long v41), .second, .val (.long v43), .second, .unset, .unset, .unset, .unset, .unset, .unset, .unset]) rfl ?_
      show Steps p.tables e below (T269.setTop (mkF m 116 #[.val (.long q0), .second, .val (.long q1), .second, .val (.long q2), .second, .val (.long q3), .second, .val (.int p4), .val (.int v2), .val (.ref b250), .val (.long (-9223372036854775808 : Int64)), .second, .val (.long (-9223372036854775808 : Int64)), .second, .val (.long (0 : Int64)), .second, .val (.long v41), .second, .val (.long v43), .second, .unset, .unset, .unset, .unset, .unset, .unset, .unset] [])) _
      refine XS.iload X269.here hx rfl (hb hby at_116) rfl ?_
      show Steps p.tables e below (T269.setTop (mkF m 118 #[.val (.long q0), .second, .val (.long q1), .second, .val (.long q2), .second, .val (.long q3), .second, .val (.int p4), .val (.int v2), .val (.ref b250), .val (.long (-9223372036854775808 : Int64)), .second, .val (.long (-9223372036854775808 : Int64)), .second, .val (.long (0 : Int64)), .second, .val (.long v41), .second, .val (.long v43), .second, .unset, .unset, .unset, .unset, .unset, .unset, .unset] [(.int p4)])) _
      refine XS.iconst X269.here hx rfl (hb hby at_118) ?_
      show Steps p.tables e below (T269.setTop (mkF m 119 #[.val (.long q0), .second, .val (.long q1), .second, .val (.long q2), .second, .val (.long q3), .second, .val (.int p4), .val (.int v2), .val (.ref b250), .val (.long (-9223372036854775808 : Int64)), .second, .val (.long (-9223372036854775808 : Int64)), .second, .val (.long (0 : Int64)), .second, .val (.long v41), .second, .val (.long v43), .second, .unset, .unset, .unset, .unset, .unset, .unset, .unset] [(.int (4 : Int32)), (.int p4)])) _
      refine XS.iand X269.here hx rfl (hb hby at_119) rfl ?_
      show Steps p.tables e below (T269.setTop (mkF m 120 #[.val (.long q0), .second, .val (.long q1), .second, .val (.long q2), .second, .val (.long q3), .second, .val (.int p4), .val (.int v2), .val (.ref b250), .val (.long (-9223372036854775808 : Int64)), .second, .val (.long (-9223372036854775808 : Int64)), .second, .val (.long (0 : Int64)), .second, .val (.long v41), .second, .val (.long v43), .second, .unset, .unset, .unset, .unset, .unset, .unset, .unset] [(.int (p4 &&& (4 : Int32)))])) _
      refine st272 _ ?_
      show Steps p.tables e below (T272.setTop (mkF m 130 #[.val (.long q0), .second, .val (.long q1), .second, .val (.long q2), .second, .val (.long q3), .second, .val (.int p4), .val (.int v2), .val (.ref b250), .val (.long (-9223372036854775808 : Int64)), .second, .val (.long (-9223372036854775808 : Int64)), .second, .val (.long (0 : Int64)), .second, .val (.long v41), .second, .val (.long v43), .second, .unset, .unset, .unset, .unset, .unset, .unset, .unset] [(.long v45)])) _
      refine XS.lstore X272.here hx rfl (hb hby at_130) rfl (l' := #[.val (.long q0), .second, .val (.long q1), .second, .val (.long q2), .second, .val (.long q3), .second, .val (.int p4), .val (.int v2), .val (.ref b250), .val (.long (-9223372036854775808 : Int64)), .second, .val (.long (-9223372036854775808 : Int64)), .second, .val (.long (0 : Int64)), .second, .val (.long v41), .second, .val (.long v43), .second, .val (.long v45), .second, .unset, .unset, .unset, .unset, .unset]) rfl ?_
      show Steps p.tables e below (T272.setTop (mkF m 132 #[.val (.long q0), .second, .val (.long q1), .second, .val (.long q2), .second, .val (.long q3), .second, .val (.int p4), .val (.int v2), .val (.ref b250), .val (.long (-9223372036854775808 : Int64)), .second, .val (.long (-9223372036854775808 : Int64)), .second, .val (.long (0 : Int64)), .second, .val (.long v41), .second, .val (.long v43), .second, .val (.long v45), .second, .unset, .unset, .unset, .unset, .unset] [])) _
      refine st273 _ ?_
      show Steps p.tables e below (T273.setTop (mkF m 135 #[.val (.long q0), .second, .val (.long q1), .second, .val (.long q2), .second, .val (.long q3), .second, .val (.int p4), .val (.int v2), .val (.ref b250), .val (.long (-9223372036854775808 : Int64)), .second, .val (.long (-9223372036854775808 : Int64)), .second, .val (.long (0 : Int64)), .second, .val (.long v41), .second, .val (.long v43), .second, .val (.long v45), .second, .unset, .unset, .unset, .unset, .unset] [(.ref b273)])) _
      refine XS.dup X273.here hx rfl (hb hby at_135) rfl rfl ?_
      show Steps p.tables e below (T273.setTop (mkF m 136 #[.val (.long q0), .second, .val (.long q1), .second, .val (.long q2), .second, .val (.long q3), .second, .val (.int p4), .val (.int v2), .val (.ref b250), .val (.long (-9223372036854775808 : Int64)), .second, .val (.long (-9223372036854775808 : Int64)), .second, .val (.long (0 : Int64)), .second, .val (.long v41), .second, .val (.long v43), .second, .val (.long v45), .second, .unset, .unset, .unset, .unset, .unset] [(.ref b273), (.ref b273)])) _
      refine XS.lload X273.here hx rfl (hb hby at_136) rfl ?_
      show Steps p.tables e below (T273.setTop (mkF m 138 #[.val (.long q0), .second, .val (.long q1), .second, .val (.long q2), .second, .val (.long q3), .second, .val (.int p4), .val (.int v2), .val (.ref b250), .val (.long (-9223372036854775808 : Int64)), .second, .val (.long (-9223372036854775808 : Int64)), .second, .val (.long (0 : Int64)), .second, .val (.long v41), .second, .val (.long v43), .second, .val (.long v45), .second, .unset, .unset, .unset, .unset, .unset] [(.long v41), (.ref b273), (.ref b273)])) _
      refine XS.lload X273.here hx rfl (hb hby at_138) rfl ?_
      show Steps p.tables e below (T273.setTop (mkF m 140 #[.val (.long q0), .second, .val (.long q1), .second, .val (.long q2), .second, .val (.long q3), .second, .val (.int p4), .val (.int v2), .val (.ref b250), .val (.long (-9223372036854775808 : Int64)), .second, .val (.long (-9223372036854775808 : Int64)), .second, .val (.long (0 : Int64)), .second, .val (.long v41), .second, .val (.long v43), .second, .val (.long v45), .second, .unset, .unset, .unset, .unset, .unset] [(.long v43), (.long v41), (.ref b273), (.ref b273)])) _
      refine XS.lload X273.here hx rfl (hb hby at_140) rfl ?_
      show Steps p.tables e below (T273.setTop (mkF m 142 #[.val (.long q0), .second, .val (.long q1), .second, .val (.long q2), .second, .val (.long q3), .second, .val (.int p4), .val (.int v2), .val (.ref b250), .val (.long (-9223372036854775808 : Int64)), .second, .val (.long (-9223372036854775808 : Int64)), .second, .val (.long (0 : Int64)), .second, .val (.long v41), .second, .val (.long v43), .second, .val (.long v45), .second, .unset, .unset, .unset, .unset, .unset] [(.long v45), (.long v43), (.long v41), (.ref b273), (.ref b273)])) _
      refine st285.trans ?_
      show Steps p.tables e below (T285.setTop (mkF m 145 #[.val (.long q0), .second, .val (.long q1), .second, .val (.long q2), .second, .val (.long q3), .second, .val (.int p4), .val (.int v2), .val (.ref b250), .val (.long (-9223372036854775808 : Int64)), .second, .val (.long (-9223372036854775808 : Int64)), .second, .val (.long (0 : Int64)), .second, .val (.long v41), .second, .val (.long v43), .second, .val (.long v45), .second, .unset, .unset, .unset, .unset, .unset] [(.ref b273)])) _
      refine XS.astore X285.here hx rfl (hb hby at_145) rfl rfl (l' := #[.val (.long q0), .second, .val (.long q1), .second, .val (.long q2), .second, .val (.long q3), .second, .val (.int p4), .val (.int v2), .val (.ref b250), .val (.long (-9223372036854775808 : Int64)), .second, .val (.long (-9223372036854775808 : Int64)), .second, .val (.long (0 : Int64)), .second, .val (.long v41), .second, .val (.long v43), .second, .val (.long v45), .second, .val (.ref b273), .unset, .unset, .unset, .unset]) rfl ?_
      show Steps p.tables e below (T285.setTop (mkF m 147 #[.val (.long q0), .second, .val (.long q1), .second, .val (.long q2), .second, .val (.long q3), .second, .val (.int p4), .val (.int v2), .val (.ref b250), .val (.long (-9223372036854775808 : Int64)), .second, .val (.long (-9223372036854775808 : Int64)), .second, .val (.long (0 : Int64)), .second, .val (.long v41), .second, .val (.long v43), .second, .val (.long v45), .second, .val (.ref b273), .unset, .unset, .unset, .unset] [])) _
      refine XS.iload X285.here hx rfl (hb hby at_147) rfl ?_
      show Steps p.tables e below (T285.setTop (mkF m 149 #[.val (.long q0), .second, .val (.long q1), .second, .val (.long q2), .second, .val (.long q3), .second, .val (.int p4), .val (.int v2), .val (.ref b250), .val (.long (-9223372036854775808 : Int64)), .second, .val (.long (-9223372036854775808 : Int64)), .second, .val (.long (0 : Int64)), .second, .val (.long v41), .second, .val (.long v43), .second, .val (.long v45), .second, .val (.ref b273), .unset, .unset, .unset, .unset] [(.int p4)])) _
      refine XS.iconst X285.here hx rfl (hb hby at_149) ?_
      show Steps p.tables e below (T285.setTop (mkF m 150 #[.val (.long q0), .second, .val (.long q1), .second, .val (.long q2), .second, .val (.long q3), .second, .val (.int p4), .val (.int v2), .val (.ref b250), .val (.long (-9223372036854775808 : Int64)), .second, .val (.long (-9223372036854775808 : Int64)), .second, .val (.long (0 : Int64)), .second, .val (.long v41), .second, .val (.long v43), .second, .val (.long v45), .second, .val (.ref b273), .unset, .unset, .unset, .unset] [(.int (4 : Int32)), (.int p4)])) _
      refine XS.iushr X285.here hx rfl (hb hby at_150) rfl ?_
      show Steps p.tables e below (T285.setTop (mkF m 151 #[.val (.long q0), .second, .val (.long q1), .second, .val (.long q2), .second, .val (.long q3), .second, .val (.int p4), .val (.int v2), .val (.ref b250), .val (.long (-9223372036854775808 : Int64)), .second, .val (.long (-9223372036854775808 : Int64)), .second, .val (.long (0 : Int64)), .second, .val (.long v41), .second, .val (.long v43), .second, .val (.long v45), .second, .val (.ref b273), .unset, .unset, .unset, .unset] [(.int ((p4.toUInt32 >>> ((4 : Int32) &&& 31).toUInt32).toInt32))])) _
      refine XS.iconst X285.here hx rfl (hb hby at_151) ?_
      show Steps p.tables e below (T285.setTop (mkF m 152 #[.val (.long q0), .second, .val (.long q1), .second, .val (.long q2), .second, .val (.long q3), .second, .val (.int p4), .val (.int v2), .val (.ref b250), .val (.long (-9223372036854775808 : Int64)), .second, .val (.long (-9223372036854775808 : Int64)), .second, .val (.long (0 : Int64)), .second, .val (.long v41), .second, .val (.long v43), .second, .val (.long v45), .second, .val (.ref b273), .unset, .unset, .unset, .unset] [(.int (3 : Int32)), (.int ((p4.toUInt32 >>> ((4 : Int32) &&& 31).toUInt32).toInt32))])) _
      refine XS.iand X285.here hx rfl (hb hby at_152) rfl ?_
      show Steps p.tables e below (T285.setTop (mkF m 153 #[.val (.long q0), .second, .val (.long q1), .second, .val (.long q2), .second, .val (.long q3), .second, .val (.int p4), .val (.int v2), .val (.ref b250), .val (.long (-9223372036854775808 : Int64)), .second, .val (.long (-9223372036854775808 : Int64)), .second, .val (.long (0 : Int64)), .second, .val (.long v41), .second, .val (.long v43), .second, .val (.long v45), .second, .val (.ref b273), .unset, .unset, .unset, .unset] [(.int (((p4.toUInt32 >>> ((4 : Int32) &&& 31).toUInt32).toInt32) &&& (3 : Int32)))])) _
      rw [← hv46]
      show Steps p.tables e below (T285.setTop (mkF m 153 #[.val (.long q0), .second, .val (.long q1), .second, .val (.long q2), .second, .val (.long q3), .second, .val (.int p4), .val (.int v2), .val (.ref b250), .val (.long (-9223372036854775808 : Int64)), .second, .val (.long (-9223372036854775808 : Int64)), .second, .val (.long (0 : Int64)), .second, .val (.long v41), .second, .val (.long v43), .second, .val (.long v45), .second, .val (.ref b273), .unset, .unset, .unset, .unset] [(.int v46)])) _
      refine XS.istore X285.here hx rfl (hb hby at_153) rfl (l' := #[.val (.long q0), .second, .val (.long q1), .second, .val (.long q2), .second, .val (.long q3), .second, .val (.int p4), .val (.int v2), .val (.ref b250), .val (.long (-9223372036854775808 : Int64)), .second, .val (.long (-9223372036854775808 : Int64)), .second, .val (.long (0 : Int64)), .second, .val (.long v41), .second, .val (.long v43), .second, .val (.long v45), .second, .val (.ref b273), .val (.int v46), .unset, .unset, .unset]) rfl ?_
      show Steps p.tables e below (T285.setTop (mkF m 155 #[.val (.long q0), .second, .val (.long q1), .second, .val (.long q2), .second, .val (.long q3), .second, .val (.int p4), .val (.int v2), .val (.ref b250), .val (.long (-9223372036854775808 : Int64)), .second, .val (.long (-9223372036854775808 : Int64)), .second, .val (.long (0 : Int64)), .second, .val (.long v41), .second, .val (.long v43), .second, .val (.long v45), .second, .val (.ref b273), .val (.int v46), .unset, .unset, .unset] [])) _
      refine XS.iload X285.here hx rfl (hb hby at_155) rfl ?_
      exact kt
    refine own_go hgo297 ?_
    by_cases hc157_47 : v46 = (0 : Int32)
    · obtain ⟨cq298, kq298, q298a, q298b, q298c⟩ := isOf hZ (rfl : T285.heap = T285.heap) F288
      obtain ⟨_, _, ⟨T298, L298, k298, n298⟩, -, X298, ⟨Lc298, hQ298, l298, y298, z298⟩, st298⟩ := X285.virtualBack hx (y := (⟨"com/example/millrace/millrace/queue/JournalClock", "equals", "(Ljava/lang/Object;)Z"⟩ : MethodName)) (z := (⟨"com/example/millrace/millrace/queue/JournalClock", "equals", "(Ljava/lang/Object;)Z"⟩ : MethodName)) hown (mvT hZ (hw _ (List.mem_of_getElem? (i := 16) rfl))) (mvT hZ (hw _ (List.mem_of_getElem? (i := 17) rfl))) (notFace_of_selects (args := #[]) (mvT hZ (hw _ (List.mem_of_getElem? (i := 19) rfl)))) (mvT hZ (hw _ (List.mem_of_getElem? (i := 19) rfl))) (mvT hZ (hw _ (List.mem_of_getElem? (i := 18) rfl))) (by decide) (backOf (W := 0) (rm3n l Z a0 hw [] b250 (T285.heap) n0 Z293 ) hZ (hw _ (List.mem_of_getElem? (i := 20) rfl)) (hw _ (List.mem_of_getElem? (i := 2) rfl)) (by decide) (by decide)) q298a q298c (g := (mkF m 252 #[.val (.long q0), .second, .val (.long q1), .second, .val (.long q2), .second, .val (.long q3), .second, .val (.int p4), .val (.int v2), .val (.ref b250), .val (.long (-9223372036854775808 : Int64)), .second, .val (.long (-9223372036854775808 : Int64)), .second, .val (.long (0 : Int64)), .second, .val (.long v41), .second, .val (.long v43), .second, .val (.long v45), .second, .val (.ref b273), .val (.int v46), .val .null, .val (.int (0 : Int32)), .val (.int (1 : Int32))] [.null, (.ref b250)])) rfl (by rw [hml]; rfl) (Steps.refl _) (argsL := [.null]) (rest := []) (lenOf pd6 rfl) rfl (by show 2 * 0 + _ ≤ _; exact Nat.le_of_eq rfl) (hb hby at_252) (fun _ _ => ⟨rfl, (rfl : T285.heap = T285.heap), (by decide : 2 + 0 ≤ _), (by decide : 6 + 0 ≤ _)⟩)
      dsimp only [Pt.U, Pt.locs, Pt.cells, Pt.slots] at X298 l298 y298 z298 st298 hQ298
      subst l298 y298 z298
      obtain ⟨rfl, N298q, e298⟩ := hQ298
      have N298 := Fr.app N285 N298q
      obtain ⟨cq299, kq299, q299a, q299b, q299c⟩ := isOf hZ e298 F288
      obtain ⟨_, _, ⟨T299, L299, k299, n299⟩, -, X299, ⟨Lc299, hQ299, l299, y299, z299⟩, st299⟩ := X298.virtualBack hx (y := (⟨"com/example/millrace/millrace/queue/JournalClock", "equals", "(Ljava/lang/Object;)Z"⟩ : MethodName)) (z := (⟨"com/example/millrace/millrace/queue/JournalClock", "equals", "(Ljava/lang/Object;)Z"⟩ : MethodName)) hown (mvT hZ (hw _ (List.mem_of_getElem? (i := 16) rfl))) (mvT hZ (hw _ (List.mem_of_getElem? (i := 17) rfl))) (notFace_of_selects (args := #[]) (mvT hZ (hw _ (List.mem_of_getElem? (i := 19) rfl)))) (mvT hZ (hw _ (List.mem_of_getElem? (i := 19) rfl))) (mvT hZ (hw _ (List.mem_of_getElem? (i := 18) rfl))) (by decide) (backOf (W := 0) (rm3j l Z a0 hw [] b250 b250 (-9223372036854775808 : Int64) (-9223372036854775808 : Int64) (-9223372036854775808 : Int64) (-9223372036854775808 : Int64) (0 : Int64) (0 : Int64) (T285.heap) n0 Z293 F288 F289 F289 F290 F290 F291 F291) hZ (hw _ (List.mem_of_getElem? (i := 20) rfl)) (hw _ (List.mem_of_getElem? (i := 2) rfl)) (by decide) (by decide)) q299a q299c (g := (mkF m 269 #[.val (.long q0), .second, .val (.long q1), .second, .val (.long q2), .second, .val (.long q3), .second, .val (.int p4), .val (.int v2), .val (.ref b250), .val (.long (-9223372036854775808 : Int64)), .second, .val (.long (-9223372036854775808 : Int64)), .second, .val (.long (0 : Int64)), .second, .val (.long v41), .second, .val (.long v43), .second, .val (.long v45), .second, .val (.ref b273), .val (.int v46), .val .null, .val (.int (0 : Int32)), .val (.int (1 : Int32))] [(.ref b250), (.ref b250)])) rfl (by rw [hml]; rfl) (Steps.refl _) (argsL := [(.ref b250)]) (rest := []) (lenOf pd6 rfl) rfl (by show 2 * 0 + _ ≤ _; exact Nat.le_of_eq rfl) (hb hby at_269) (fun _ _ => ⟨rfl, e298, (by decide : 2 + 0 ≤ _), (by decide : 6 + 0 ≤ _)⟩)
      dsimp only [Pt.U, Pt.locs, Pt.cells, Pt.slots] at X299 l299 y299 z299 st299 hQ299
      subst l299 y299 z299
      obtain ⟨rfl, N299q, e299⟩ := hQ299
      have N299 := Fr.app N298 N299q
      obtain ⟨v50, hv50⟩ : ∃ z : Int32, z = (if (own_r3j (-9223372036854775808 : Int64) (-9223372036854775808 : Int64) (-9223372036854775808 : Int64) (-9223372036854775808 : Int64) (0 : Int64) (0 : Int64)) = (0 : Int32) then (0 : Int32) else (1 : Int32)) := ⟨_, rfl⟩
      obtain ⟨T302, lc302, X302, N302, e302, st302⟩ := own_mrg (n0 := n0) (h := T285.heap) (g := (mkF m 272 #[.val (.long q0), .second, .val (.long q1), .second, .val (.long q2), .second, .val (.long q3), .second, .val (.int p4), .val (.int v2), .val (.ref b250), .val (.long (-9223372036854775808 : Int64)), .second, .val (.long (-9223372036854775808 : Int64)), .second, .val (.long (0 : Int64)), .second, .val (.long v41), .second, .val (.long v43), .second, .val (.long v45), .second, .val (.ref b273), .val (.int v46), .val .null, .val (.int (0 : Int32)), .val (.int (1 : Int32))] [(.int (own_r3j (-9223372036854775808 : Int64) (-9223372036854775808 : Int64) (-9223372036854775808 : Int64) (-9223372036854775808 : Int64) (0 : Int64) (0 : Int64)))])) (g' := (mkF m 280 #[.val (.long q0), .second, .val (.long q1), .second, .val (.long q2), .second, .val (.long q3), .second, .val (.int p4), .val (.int v2), .val (.ref b250), .val (.long (-9223372036854775808 : Int64)), .second, .val (.long (-9223372036854775808 : Int64)), .second, .val (.long (0 : Int64)), .second, .val (.long v41), .second, .val (.long v43), .second, .val (.long v45), .second, .val (.ref b273), .val (.int v46), .val .null, .val (.int (0 : Int32)), .val (.int (1 : Int32))] [(.int v50)])) X299 (by
        by_cases hc272_49 : (own_r3j (-9223372036854775808 : Int64) (-9223372036854775808 : Int64) (-9223372036854775808 : Int64) (-9223372036854775808 : Int64) (0 : Int64) (0 : Int64)) = (0 : Int32)
        · have hgo300 : ∀ t, Steps p.tables e below (T299.setTop (mkF m 280 #[.val (.long q0), .second, .val (.long q1), .second, .val (.long q2), .second, .val (.long q3), .second, .val (.int p4), .val (.int v2), .val (.ref b250), .val (.long (-9223372036854775808 : Int64)), .second, .val (.long (-9223372036854775808 : Int64)), .second, .val (.long (0 : Int64)), .second, .val (.long v41), .second, .val (.long v43), .second, .val (.long v45), .second, .val (.ref b273), .val (.int v46), .val .null, .val (.int (0 : Int32)), .val (.int (1 : Int32))] [(.int (0 : Int32))])) t → Steps p.tables e below (T299.setTop (mkF m 272 #[.val (.long q0), .second, .val (.long q1), .second, .val (.long q2), .second, .val (.long q3), .second, .val (.int p4), .val (.int v2), .val (.ref b250), .val (.long (-9223372036854775808 : Int64)), .second, .val (.long (-9223372036854775808 : Int64)), .second, .val (.long (0 : Int64)), .second, .val (.long v41), .second, .val (.long v43), .second, .val (.long v45), .second, .val (.ref b273), .val (.int v46), .val .null, .val (.int (0 : Int32)), .val (.int (1 : Int32))] [(.int (own_r3j (-9223372036854775808 : Int64) (-9223372036854775808 : Int64) (-9223372036854775808 : Int64) (-9223372036854775808 : Int64) (0 : Int64) (0 : Int64)))])) t := by
            intro t kt
            show Steps p.tables e below (T299.setTop (mkF m 272 #[.val (.long q0), .second, .val (.long q1), .second, .val (.long q2), .second, .val (.long q3), .second, .val (.int p4), .val (.int v2), .val (.ref b250), .val (.long (-9223372036854775808 : Int64)), .second, .val (.long (-9223372036854775808 : Int64)), .second, .val (.long (0 : Int64)), .second, .val (.long v41), .second, .val (.long v43), .second, .val (.long v45), .second, .val (.ref b273), .val (.int v46), .val .null, .val (.int (0 : Int32)), .val (.int (1 : Int32))] [(.int (own_r3j (-9223372036854775808 : Int64) (-9223372036854775808 : Int64) (-9223372036854775808 : Int64) (-9223372036854775808 : Int64) (0 : Int64) (0 : Int64)))])) _
            refine XS.ifYes X299.here hx rfl (pc0 := 272) (pc' := 279) rfl (hb hby at_272) rfl ((if0 _ _).trans (teq hc272_49).1) (by decide) (by decide) ?_
            show Steps p.tables e below (T299.setTop (mkF m 279 #[.val (.long q0), .second, .val (.long q1), .second, .val (.long q2), .second, .val (.long q3), .second, .val (.int p4), .val (.int v2), .val (.ref b250), .val (.long (-9223372036854775808 : Int64)), .second, .val (.long (-9223372036854775808 : Int64)), .second, .val (.long (0 : Int64)), .second, .val (.long v41), .second, .val (.long v43), .second, .val (.long v45), .second, .val (.ref b273), .val (.int v46), .val .null, .val (.int (0 : Int32)), .val (.int (1 : Int32))] [])) _
            refine XS.iconst X299.here hx rfl (hb hby at_279) ?_
            exact kt
          refine own_arm hgo300 ?_
          exact own_armEnd X299 N299 e299 (by rw [hv50.trans (if_pos hc272_49)])
        · have hgo301 : ∀ t, Steps p.tables e below (T299.setTop (mkF m 280 #[.val (.long q0), .second, .val (.long q1), .second, .val (.long q2), .second, .val (.long q3), .second, .val (.int p4), .val (.int v2), .val (.ref b250), .val (.long (-9223372036854775808 : Int64)), .second, .val (.long (-9223372036854775808 : Int64)), .second, .val (.long (0 : Int64)), .second, .val (.long v41), .second, .val (.long v43), .second, .val (.long v45), .second, .val (.ref b273), .val (.int v46), .val .null, .val (.int (0 : Int32)), .val (.int (1 : Int32))] [(.int (1 : Int32))])) t → Steps p.tables e below (T299.setTop (mkF m 272 #[.val (.long q0), .second, .val (.long q1), .second, .val (.long q2), .second, .val (.long q3), .second, .val (.int p4), .val (.int v2), .val (.ref b250), .val (.long (-9223372036854775808 : Int64)), .second, .val (.long (-9223372036854775808 : Int64)), .second, .val (.long (0 : Int64)), .second, .val (.long v41), .second, .val (.long v43), .second, .val (.long v45), .second, .val (.ref b273), .val (.int v46), .val .null, .val (.int (0 : Int32)), .val (.int (1 : Int32))] [(.int (own_r3j (-9223372036854775808 : Int64) (-9223372036854775808 : Int64) (-9223372036854775808 : Int64) (-9223372036854775808 : Int64) (0 : Int64) (0 : Int64)))])) t := by
            intro t kt
            show Steps p.tables e below (T299.setTop (mkF m 272 #[.val (.long q0), .second, .val (.long q1), .second, .val (.long q2), .second, .val (.long q3), .second, .val (.int p4), .val (.int v2), .val (.ref b250), .val (.long (-9223372036854775808 : Int64)), .second, .val (.long (-9223372036854775808 : Int64)), .second, .val (.long (0 : Int64)), .second, .val (.long v41), .second, .val (.long v43), .second, .val (.long v45), .second, .val (.ref b273), .val (.int v46), .val .null, .val (.int (0 : Int32)), .val (.int (1 : Int32))] [(.int (own_r3j (-9223372036854775808 : Int64) (-9223372036854775808 : Int64) (-9223372036854775808 : Int64) (-9223372036854775808 : Int64) (0 : Int64) (0 : Int64)))])) _
            refine XS.ifNo X299.here hx rfl (hb hby at_272) rfl ((if0 _ _).trans (feq hc272_49).1) ?_
            show Steps p.tables e below (T299.setTop (mkF m 275 #[.val (.long q0), .second, .val (.long q1), .second, .val (.long q2), .second, .val (.long q3), .second, .val (.int p4), .val (.int v2), .val (.ref b250), .val (.long (-9223372036854775808 : Int64)), .second, .val (.long (-9223372036854775808 : Int64)), .second, .val (.long (0 : Int64)), .second, .val (.long v41), .second, .val (.long v43), .second, .val (.long v45), .second, .val (.ref b273), .val (.int v46), .val .null, .val (.int (0 : Int32)), .val (.int (1 : Int32))] [])) _
            refine XS.iconst X299.here hx rfl (hb hby at_275) ?_
            show Steps p.tables e below (T299.setTop (mkF m 276 #[.val (.long q0), .second, .val (.long q1), .second, .val (.long q2), .second, .val (.long q3), .second, .val (.int p4), .val (.int v2), .val (.ref b250), .val (.long (-9223372036854775808 : Int64)), .second, .val (.long (-9223372036854775808 : Int64)), .second, .val (.long (0 : Int64)), .second, .val (.long v41), .second, .val (.long v43), .second, .val (.long v45), .second, .val (.ref b273), .val (.int v46), .val .null, .val (.int (0 : Int32)), .val (.int (1 : Int32))] [(.int (1 : Int32))])) _
            refine XS.goto X299.here hx rfl (pc0 := 276) (pc' := 280) rfl (hb hby at_276) (by decide) (by decide) ?_
            exact kt
          refine own_arm hgo301 ?_
          exact own_armEnd X299 N299 e299 (by rw [hv50.trans (if_neg hc272_49)]))
      have hgo303 : ∀ t, Steps p.tables e below (T302.setTop (mkF m 280 #[.val (.long q0), .second, .val (.long q1), .second, .val (.long q2), .second, .val (.long q3), .second, .val (.int p4), .val (.int v2), .val (.ref b250), .val (.long (-9223372036854775808 : Int64)), .second, .val (.long (-9223372036854775808 : Int64)), .second, .val (.long (0 : Int64)), .second, .val (.long v41), .second, .val (.long v43), .second, .val (.long v45), .second, .val (.ref b273), .val (.int v46), .val .null, .val (.int (0 : Int32)), .val (.int (1 : Int32))] [(.int v50)])) t → Steps p.tables e below (T285.setTop (mkF m 157 #[.val (.long q0), .second, .val (.long q1), .second, .val (.long q2), .second, .val (.long q3), .second, .val (.int p4), .val (.int v2), .val (.ref b250), .val (.long (-9223372036854775808 : Int64)), .second, .val (.long (-9223372036854775808 : Int64)), .second, .val (.long (0 : Int64)), .second, .val (.long v41), .second, .val (.long v43), .second, .val (.long v45), .second, .val (.ref b273), .val (.int v46), .unset, .unset, .unset] [(.int v46)])) t := by
        intro t kt
        show Steps p.tables e below (T285.setTop (mkF m 157 #[.val (.long q0), .second, .val (.long q1), .second, .val (.long q2), .second, .val (.long q3), .second, .val (.int p4), .val (.int v2), .val (.ref b250), .val (.long (-9223372036854775808 : Int64)), .second, .val (.long (-9223372036854775808 : Int64)), .second, .val (.long (0 : Int64)), .second, .val (.long v41), .second, .val (.long v43), .second, .val (.long v45), .second, .val (.ref b273), .val (.int v46), .unset, .unset, .unset] [(.int v46)])) _
        refine XS.ifNo X285.here hx rfl (hb hby at_157) rfl ((if0 _ _).trans (teq hc157_47).2) ?_
        show Steps p.tables e below (T285.setTop (mkF m 160 #[.val (.long q0), .second, .val (.long q1), .second, .val (.long q2), .second, .val (.long q3), .second, .val (.int p4), .val (.int v2), .val (.ref b250), .val (.long (-9223372036854775808 : Int64)), .second, .val (.long (-9223372036854775808 : Int64)), .second, .val (.long (0 : Int64)), .second, .val (.long v41), .second, .val (.long v43), .second, .val (.long v45), .second, .val (.ref b273), .val (.int v46), .unset, .unset, .unset] [])) _
        refine XS.aconstNull X285.here hx rfl (hb hby at_160) ?_
        show Steps p.tables e below (T285.setTop (mkF m 161 #[.val (.long q0), .second, .val (.long q1), .second, .val (.long q2), .second, .val (.long q3), .second, .val (.int p4), .val (.int v2), .val (.ref b250), .val (.long (-9223372036854775808 : Int64)), .second, .val (.long (-9223372036854775808 : Int64)), .second, .val (.long (0 : Int64)), .second, .val (.long v41), .second, .val (.long v43), .second, .val (.long v45), .second, .val (.ref b273), .val (.int v46), .unset, .unset, .unset] [.null])) _
        refine XS.astore X285.here hx rfl (hb hby at_161) rfl rfl (l' := #[.val (.long q0), .second, .val (.long q1), .second, .val (.long q2), .second, .val (.long q3), .second, .val (.int p4), .val (.int v2), .val (.ref b250), .val (.long (-9223372036854775808 : Int64)), .second, .val (.long (-9223372036854775808 : Int64)), .second, .val (.long (0 : Int64)), .second, .val (.long v41), .second, .val (.long v43), .second, .val (.long v45), .second, .val (.ref b273), .val (.int v46), .val .null, .unset, .unset]) rfl ?_
        show Steps p.tables e below (T285.setTop (mkF m 163 #[.val (.long q0), .second, .val (.long q1), .second, .val (.long q2), .second, .val (.long q3), .second, .val (.int p4), .val (.int v2), .val (.ref b250), .val (.long (-9223372036854775808 : Int64)), .second, .val (.long (-9223372036854775808 : Int64)), .second, .val (.long (0 : Int64)), .second, .val (.long v41), .second, .val (.long v43), .second, .val (.long v45), .second, .val (.ref b273), .val (.int v46), .val .null, .unset, .unset] [])) _
        refine XS.iconst X285.here hx rfl (hb hby at_163) ?_
        show Steps p.tables e below (T285.setTop (mkF m 164 #[.val (.long q0), .second, .val (.long q1), .second, .val (.long q2), .second, .val (.long q3), .second, .val (.int p4), .val (.int v2), .val (.ref b250), .val (.long (-9223372036854775808 : Int64)), .second, .val (.long (-9223372036854775808 : Int64)), .second, .val (.long (0 : Int64)), .second, .val (.long v41), .second, .val (.long v43), .second, .val (.long v45), .second, .val (.ref b273), .val (.int v46), .val .null, .unset, .unset] [(.int (0 : Int32))])) _
        refine XS.istore X285.here hx rfl (hb hby at_164) rfl (l' := #[.val (.long q0), .second, .val (.long q1), .second, .val (.long q2), .second, .val (.long q3), .second, .val (.int p4), .val (.int v2), .val (.ref b250), .val (.long (-9223372036854775808 : Int64)), .second, .val (.long (-9223372036854775808 : Int64)), .second, .val (.long (0 : Int64)), .second, .val (.long v41), .second, .val (.long v43), .second, .val (.long v45), .second, .val (.ref b273), .val (.int v46), .val .null, .val (.int (0 : Int32)), .unset]) rfl ?_
        show Steps p.tables e below (T285.setTop (mkF m 166 #[.val (.long q0), .second, .val (.long q1), .second, .val (.long q2), .second, .val (.long q3), .second, .val (.int p4), .val (.int v2), .val (.ref b250), .val (.long (-9223372036854775808 : Int64)), .second, .val (.long (-9223372036854775808 : Int64)), .second, .val (.long (0 : Int64)), .second, .val (.long v41), .second, .val (.long v43), .second, .val (.long v45), .second, .val (.ref b273), .val (.int v46), .val .null, .val (.int (0 : Int32)), .unset] [])) _
        refine XS.goto X285.here hx rfl (pc0 := 166) (pc' := 223) rfl (hb hby at_166) (by decide) (by decide) ?_
        show Steps p.tables e below (T285.setTop (mkF m 223 #[.val (.long q0), .second, .val (.long q1), .second, .val (.long q2), .second, .val (.long q3), .second, .val (.int p4), .val (.int v2), .val (.ref b250), .val (.long (-9223372036854775808 : Int64)), .second, .val (.long (-9223372036854775808 : Int64)), .second, .val (.long (0 : Int64)), .second, .val (.long v41), .second, .val (.long v43), .second, .val (.long v45), .second, .val (.ref b273), .val (.int v46), .val .null, .val (.int (0 : Int32)), .unset] [])) _
        refine XS.iload X285.here hx rfl (hb hby at_223) rfl ?_
        show Steps p.tables e below (T285.setTop (mkF m 225 #[.val (.long q0), .second, .val (.long q1), .second, .val (.long q2), .second, .val (.long q3), .second, .val (.int p4), .val (.int v2), .val (.ref b250), .val (.long (-9223372036854775808 : Int64)), .second, .val (.long (-9223372036854775808 : Int64)), .second, .val (.long (0 : Int64)), .second, .val (.long v41), .second, .val (.long v43), .second, .val (.long v45), .second, .val (.ref b273), .val (.int v46), .val .null, .val (.int (0 : Int32)), .unset] [(.int v46)])) _
        refine XS.iconst X285.here hx rfl (hb hby at_225) ?_
        show Steps p.tables e below (T285.setTop (mkF m 226 #[.val (.long q0), .second, .val (.long q1), .second, .val (.long q2), .second, .val (.long q3), .second, .val (.int p4), .val (.int v2), .val (.ref b250), .val (.long (-9223372036854775808 : Int64)), .second, .val (.long (-9223372036854775808 : Int64)), .second, .val (.long (0 : Int64)), .second, .val (.long v41), .second, .val (.long v43), .second, .val (.long v45), .second, .val (.ref b273), .val (.int v46), .val .null, .val (.int (0 : Int32)), .unset] [(.int (2 : Int32)), (.int v46)])) _
        refine XS.icmpYes X285.here hx rfl (pc0 := 226) (pc' := 241) rfl (hb hby at_226) rfl (tlt (by have y0 := hc157_47; simp only [Int32.lt_iff_toInt_lt, ← Int32.toInt_inj, Int32.reduceToInt] at y0 ⊢; omega : v46 < (2 : Int32))).1 (by decide) (by decide) ?_
        show Steps p.tables e below (T285.setTop (mkF m 241 #[.val (.long q0), .second, .val (.long q1), .second, .val (.long q2), .second, .val (.long q3), .second, .val (.int p4), .val (.int v2), .val (.ref b250), .val (.long (-9223372036854775808 : Int64)), .second, .val (.long (-9223372036854775808 : Int64)), .second, .val (.long (0 : Int64)), .second, .val (.long v41), .second, .val (.long v43), .second, .val (.long v45), .second, .val (.ref b273), .val (.int v46), .val .null, .val (.int (0 : Int32)), .unset] [])) _
        refine XS.iconst X285.here hx rfl (hb hby at_241) ?_
        show Steps p.tables e below (T285.setTop (mkF m 242 #[.val (.long q0), .second, .val (.long q1), .second, .val (.long q2), .second, .val (.long q3), .second, .val (.int p4), .val (.int v2), .val (.ref b250), .val (.long (-9223372036854775808 : Int64)), .second, .val (.long (-9223372036854775808 : Int64)), .second, .val (.long (0 : Int64)), .second, .val (.long v41), .second, .val (.long v43), .second, .val (.long v45), .second, .val (.ref b273), .val (.int v46), .val .null, .val (.int (0 : Int32)), .unset] [(.int (1 : Int32))])) _
        refine XS.goto X285.here hx rfl (pc0 := 242) (pc' := 246) rfl (hb hby at_242) (by decide) (by decide) ?_
        show Steps p.tables e below (T285.setTop (mkF m 246 #[.val (.long q0), .second, .val (.long q1), .second, .val (.long q2), .second, .val (.long q3), .second, .val (.int p4), .val (.int v2), .val (.ref b250), .val (.long (-9223372036854775808 : Int64)), .second, .val (.long (-9223372036854775808 : Int64)), .second, .val (.long (0 : Int64)), .second, .val (.long v41), .second, .val (.long v43), .second, .val (.long v45), .second, .val (.ref b273), .val (.int v46), .val .null, .val (.int (0 : Int32)), .unset] [(.int (1 : Int32))])) _
        refine XS.istore X285.here hx rfl (hb hby at_246) rfl (l' := #[.val (.long q0), .second, .val (.long q1), .second, .val (.long q2), .second, .val (.long q3), .second, .val (.int p4), .val (.int v2), .val (.ref b250), .val (.long (-9223372036854775808 : Int64)), .second, .val (.long (-9223372036854775808 : Int64)), .second, .val (.long (0 : Int64)), .second, .val (.long v41), .second, .val (.long v43), .second, .val (.long v45), .second, .val (.ref b273), .val (.int v46), .val .null, .val (.int (0 : Int32)), .val (.int (1 : Int32))]) rfl ?_
        show Steps p.tables e below (T285.setTop (mkF m 248 #[.val (.long q0), .second, .val (.long q1), .second, .val (.long q2), .second, .val (.long q3), .second, .val (.int p4), .val (.int v2), .val (.ref b250), .val (.long (-9223372036854775808 : Int64)), .second, .val (.long (-9223372036854775808 : Int64)), .second, .val (.long (0 : Int64)), .second, .val (.long v41), .second, .val (.long v43), .second, .val (.long v45), .second, .val (.ref b273), .val (.int v46), .val .null, .val (.int (0 : Int32)), .val (.int (1 : Int32))] [])) _
        refine XS.aload X285.here hx rfl (hb hby at_248) rfl rfl ?_
        show Steps p.tables e below (T285.setTop (mkF m 250 #[.val (.long q0), .second, .val (.long q1), .second, .val (.long q2), .second, .val (.long q3), .second, .val (.int p4), .val (.int v2), .val (.ref b250), .val (.long (-9223372036854775808 : Int64)), .second, .val (.long (-9223372036854775808 : Int64)), .second, .val (.long (0 : Int64)), .second, .val (.long v41), .second, .val (.long v43), .second, .val (.long v45), .second, .val (.ref b273), .val (.int v46), .val .null, .val (.int (0 : Int32)), .val (.int (1 : Int32))] [(.ref b250)])) _
        refine XS.aload X285.here hx rfl (hb hby at_250) rfl rfl ?_
        show Steps p.tables e below (T285.setTop (mkF m 252 #[.val (.long q0), .second, .val (.long q1), .second, .val (.long q2), .second, .val (.long q3), .second, .val (.int p4), .val (.int v2), .val (.ref b250), .val (.long (-9223372036854775808 : Int64)), .second, .val (.long (-9223372036854775808 : Int64)), .second, .val (.long (0 : Int64)), .second, .val (.long v41), .second, .val (.long v43), .second, .val (.long v45), .second, .val (.ref b273), .val (.int v46), .val .null, .val (.int (0 : Int32)), .val (.int (1 : Int32))] [.null, (.ref b250)])) _
        refine st298.trans ?_
        show Steps p.tables e below (T298.setTop (mkF m 255 #[.val (.long q0), .second, .val (.long q1), .second, .val (.long q2), .second, .val (.long q3), .second, .val (.int p4), .val (.int v2), .val (.ref b250), .val (.long (-9223372036854775808 : Int64)), .second, .val (.long (-9223372036854775808 : Int64)), .second, .val (.long (0 : Int64)), .second, .val (.long v41), .second, .val (.long v43), .second, .val (.long v45), .second, .val (.ref b273), .val (.int v46), .val .null, .val (.int (0 : Int32)), .val (.int (1 : Int32))] [(.int (0 : Int32))])) _
        refine XS.iload X298.here hx rfl (hb hby at_255) rfl ?_
        show Steps p.tables e below (T298.setTop (mkF m 257 #[.val (.long q0), .second, .val (.long q1), .second, .val (.long q2), .second, .val (.long q3), .second, .val (.int p4), .val (.int v2), .val (.ref b250), .val (.long (-9223372036854775808 : Int64)), .second, .val (.long (-9223372036854775808 : Int64)), .second, .val (.long (0 : Int64)), .second, .val (.long v41), .second, .val (.long v43), .second, .val (.long v45), .second, .val (.ref b273), .val (.int v46), .val .null, .val (.int (0 : Int32)), .val (.int (1 : Int32))] [(.int (0 : Int32)), (.int (0 : Int32))])) _
        refine XS.icmpNo X298.here hx rfl (hb hby at_257) rfl (teq (by decide : (0 : Int32) = (0 : Int32))).2 ?_
        show Steps p.tables e below (T298.setTop (mkF m 260 #[.val (.long q0), .second, .val (.long q1), .second, .val (.long q2), .second, .val (.long q3), .second, .val (.int p4), .val (.int v2), .val (.ref b250), .val (.long (-9223372036854775808 : Int64)), .second, .val (.long (-9223372036854775808 : Int64)), .second, .val (.long (0 : Int64)), .second, .val (.long v41), .second, .val (.long v43), .second, .val (.long v45), .second, .val (.ref b273), .val (.int v46), .val .null, .val (.int (0 : Int32)), .val (.int (1 : Int32))] [])) _
        refine XS.iload X298.here hx rfl (hb hby at_260) rfl ?_
        show Steps p.tables e below (T298.setTop (mkF m 262 #[.val (.long q0), .second, .val (.long q1), .second, .val (.long q2), .second, .val (.long q3), .second, .val (.int p4), .val (.int v2), .val (.ref b250), .val (.long (-9223372036854775808 : Int64)), .second, .val (.long (-9223372036854775808 : Int64)), .second, .val (.long (0 : Int64)), .second, .val (.long v41), .second, .val (.long v43), .second, .val (.long v45), .second, .val (.ref b273), .val (.int v46), .val .null, .val (.int (0 : Int32)), .val (.int (1 : Int32))] [(.int (1 : Int32))])) _
        refine XS.ifNo X298.here hx rfl (hb hby at_262) rfl ((if0 _ _).trans (feq (by decide : ¬ ((1 : Int32) = (0 : Int32)))).1) ?_
        show Steps p.tables e below (T298.setTop (mkF m 265 #[.val (.long q0), .second, .val (.long q1), .second, .val (.long q2), .second, .val (.long q3), .second, .val (.int p4), .val (.int v2), .val (.ref b250), .val (.long (-9223372036854775808 : Int64)), .second, .val (.long (-9223372036854775808 : Int64)), .second, .val (.long (0 : Int64)), .second, .val (.long v41), .second, .val (.long v43), .second, .val (.long v45), .second, .val (.ref b273), .val (.int v46), .val .null, .val (.int (0 : Int32)), .val (.int (1 : Int32))] [])) _
        refine XS.aload X298.here hx rfl (hb hby at_265) rfl rfl ?_
        show Steps p.tables e below (T298.setTop (mkF m 267 #[.val (.long q0), .second, .val (.long q1), .second, .val (.long q2), .second, .val (.long q3), .second, .val (.int p4), .val (.int v2), .val (.ref b250), .val (.long (-9223372036854775808 : Int64)), .second, .val (.long (-9223372036854775808 : Int64)), .second, .val (.long (0 : Int64)), .second, .val (.long v41), .second, .val (.long v43), .second, .val (.long v45), .second, .val (.ref b273), .val (.int v46), .val .null, .val (.int (0 : Int32)), .val (.int (1 : Int32))] [(.ref b250)])) _
        refine XS.aload X298.here hx rfl (hb hby at_267) rfl rfl ?_
        show Steps p.tables e below (T298.setTop (mkF m 269 #[.val (.long q0), .second, .val (.long q1), .second, .val (.long q2), .second, .val (.long q3), .second, .val (.int p4), .val (.int v2), .val (.ref b250), .val (.long (-9223372036854775808 : Int64)), .second, .val (.long (-9223372036854775808 : Int64)), .second, .val (.long (0 : Int64)), .second, .val (.long v41), .second, .val (.long v43), .second, .val (.long v45), .second, .val (.ref b273), .val (.int v46), .val .null, .val (.int (0 : Int32)), .val (.int (1 : Int32))] [(.ref b250), (.ref b250)])) _
        refine st299.trans ?_
        show Steps p.tables e below (T299.setTop (mkF m 272 #[.val (.long q0), .second, .val (.long q1), .second, .val (.long q2), .second, .val (.long q3), .second, .val (.int p4), .val (.int v2), .val (.ref b250), .val (.long (-9223372036854775808 : Int64)), .second, .val (.long (-9223372036854775808 : Int64)), .second, .val (.long (0 : Int64)), .second, .val (.long v41), .second, .val (.long v43), .second, .val (.long v45), .second, .val (.ref b273), .val (.int v46), .val .null, .val (.int (0 : Int32)), .val (.int (1 : Int32))] [(.int (own_r3j (-9223372036854775808 : Int64) (-9223372036854775808 : Int64) (-9223372036854775808 : Int64) (-9223372036854775808 : Int64) (0 : Int64) (0 : Int64)))])) _
        refine st302 _ ?_
        exact kt
      refine own_go hgo303 ?_
      have hz304 : v50 = 1 := own_leaf5 (q0 := q0) (q1 := q1) (q2 := q2) (q3 := q3) (p4 := p4) (ulc := ulc) hv2 hv41 hv43 hv45 hv46 hv50 hc17_3 hc157_47
      exact own_retZ X302 hx Bd.returns Bd.notSynchronized (hb hby at_280) (by decide) (by decide) (Or.inr hz304) ⟨by rw [hz304], N302⟩
    · have hgo306 : ∀ t, Steps p.tables e below (T285.setTop (mkF m 172 #[.val (.long q0), .second, .val (.long q1), .second, .val (.long q2), .second, .val (.long q3), .second, .val (.int p4), .val (.int v2), .val (.ref b250), .val (.long (-9223372036854775808 : Int64)), .second, .val (.long (-9223372036854775808 : Int64)), .second, .val (.long (0 : Int64)), .second, .val (.long v41), .second, .val (.long v43), .second, .val (.long v45), .second, .val (.ref b273), .val (.int v46), .unset, .unset, .unset] [(.int (1 : Int32)), (.int v46)])) t → Steps p.tables e below (T285.setTop (mkF m 157 #[.val (.long q0), .second, .val (.long q1), .second, .val (.long q2), .second, .val (.long q3), .second, .val (.int p4), .val (.int v2), .val (.ref b250), .val (.long (-9223372036854775808 : Int64)), .second, .val (.long (-9223372036854775808 : Int64)), .second, .val (.long (0 : Int64)), .second, .val (.long v41), .second, .val (.long v43), .second, .val (.long v45), .second, .val (.ref b273), .val (.int v46), .unset, .unset, .unset] [(.int v46)])) t := by
        intro t kt
        show Steps p.tables e below (T285.setTop (mkF m 157 #[.val (.long q0), .second, .val (.long q1), .second, .val (.long q2), .second, .val (.long q3), .second, .val (.int p4), .val (.int v2), .val (.ref b250), .val (.long (-9223372036854775808 : Int64)), .second, .val (.long (-9223372036854775808 : Int64)), .second, .val (.long (0 : Int64)), .second, .val (.long v41), .second, .val (.long v43), .second, .val (.long v45), .second, .val (.ref b273), .val (.int v46), .unset, .unset, .unset] [(.int v46)])) _
        refine XS.ifYes X285.here hx rfl (pc0 := 157) (pc' := 169) rfl (hb hby at_157) rfl ((if0 _ _).trans (feq hc157_47).2) (by decide) (by decide) ?_
        show Steps p.tables e below (T285.setTop (mkF m 169 #[.val (.long q0), .second, .val (.long q1), .second, .val (.long q2), .second, .val (.long q3), .second, .val (.int p4), .val (.int v2), .val (.ref b250), .val (.long (-9223372036854775808 : Int64)), .second, .val (.long (-9223372036854775808 : Int64)), .second, .val (.long (0 : Int64)), .second, .val (.long v41), .second, .val (.long v43), .second, .val (.long v45), .second, .val (.ref b273), .val (.int v46), .unset, .unset, .unset] [])) _
        refine XS.iload X285.here hx rfl (hb hby at_169) rfl ?_
        show Steps p.tables e below (T285.setTop (mkF m 171 #[.val (.long q0), .second, .val (.long q1), .second, .val (.long q2), .second, .val (.long q3), .second, .val (.int p4), .val (.int v2), .val (.ref b250), .val (.long (-9223372036854775808 : Int64)), .second, .val (.long (-9223372036854775808 : Int64)), .second, .val (.long (0 : Int64)), .second, .val (.long v41), .second, .val (.long v43), .second, .val (.long v45), .second, .val (.ref b273), .val (.int v46), .unset, .unset, .unset] [(.int v46)])) _
        refine XS.iconst X285.here hx rfl (hb hby at_171) ?_
        exact kt
      refine own_go hgo306 ?_
      by_cases hc172_51 : v46 = (1 : Int32)
      · obtain ⟨_, _, ⟨T307, L307, k307, n307⟩, -, X307, ⟨Lc307, hQ307, l307, y307, z307⟩, st307⟩ := Jvm.LawKit.callS X285 hx (y := (⟨"java/lang/Long", "valueOf", "(J)Ljava/lang/Long;"⟩ : MethodName)) hown (mvT hZ (hw _ (List.mem_of_getElem? (i := 27) rfl))) (mvT hZ (hw _ (List.mem_of_getElem? (i := 28) rfl))) (mvT hZ (hw _ (List.mem_of_getElem? (i := 29) rfl))) (mvT hZ (hw _ (List.mem_of_getElem? (i := 30) rfl))) (by decide) (backOf (W := 0) (rm5a l Z a0 hw [] (-9223372036854775808 : Int64) (T285.heap) n0 Z293 (by first | assumption | decide : (-9223372036854775808 : Int64) < (-128 : Int64))) hZ (hw _ (List.mem_of_getElem? (i := 30) rfl)) (hw _ (List.mem_of_getElem? (i := 29) rfl)) (by decide) (by decide)) (g := (mkF m 177 #[.val (.long q0), .second, .val (.long q1), .second, .val (.long q2), .second, .val (.long q3), .second, .val (.int p4), .val (.int v2), .val (.ref b250), .val (.long (-9223372036854775808 : Int64)), .second, .val (.long (-9223372036854775808 : Int64)), .second, .val (.long (0 : Int64)), .second, .val (.long v41), .second, .val (.long v43), .second, .val (.long v45), .second, .val (.ref b273), .val (.int v46), .unset, .unset, .unset] [(.long (-9223372036854775808 : Int64))])) rfl (by rw [hml]; rfl) (argsL := [(.long (-9223372036854775808 : Int64))]) (rest := []) (lenOf pd7 rfl) rfl (by show 2 * 0 + _ ≤ _; exact Nat.le_of_eq rfl) (hb hby at_177) (fun _ _ => ⟨rfl, (rfl : T285.heap = T285.heap), (by decide : 2 + 1 ≤ _), (by decide : 6 + 1 ≤ _)⟩)
        dsimp only [Pt.U, Pt.locs, Pt.cells, Pt.slots] at X307 l307 y307 z307 st307 hQ307
        subst l307 y307 z307
        obtain ⟨b307_0, rfl, N307q, K307q, F307_0, F307_1, F307_2⟩ := hQ307
        have F308 := own_staKeep F286 K307q all0
        have F309 := F287.keep K307q nin0
        have F310 := F288.keep K307q
        have F311 := F289.keep K307q nin0
        have F312 := F290.keep K307q nin0
        have F313 := F291.keep K307q nin0
        have F314 := F285_0.keep K307q
        have F315 := F285_1.keep K307q nin0
        have F316 := F285_2.keep K307q nin0
        have F317 := F285_3.keep K307q nin0
        have Z318 : n0 ≤ T307.heap.size := Nat.le_trans Z293 K307q.1
        have K319 : Keep h0 T307.heap [] := K294.trans K307q all0
        have g_b307_0 : n0 ≤ b307_0 := Nat.le_trans Z293 F307_0
        have sz_b307_0 : h0.size ≤ b307_0 := Nat.le_trans K294.1 F307_0
        have ne_ulc_b307_0 : ulc ≠ b307_0 := Nat.ne_of_lt (Nat.lt_of_lt_of_le F287.lt F307_0)
        have ne_b250_b307_0 : b250 ≠ b307_0 := Nat.ne_of_lt (Nat.lt_of_lt_of_le F288.lt F307_0)
        have ne_b273_b307_0 : b273 ≠ b307_0 := Nat.ne_of_lt (Nat.lt_of_lt_of_le F285_0.lt F307_0)
        have N307 := Fr.app N285 N307q
        obtain ⟨cq320, kq320, q320a, q320b, q320c⟩ := isOf hZ (rfl : T307.heap = T307.heap) F310
        obtain ⟨_, _, ⟨T320, L320, k320, n320⟩, -, X320, ⟨Lc320, hQ320, l320, y320, z320⟩, st320⟩ := X307.virtualBack hx (y := (⟨"com/example/millrace/millrace/queue/JournalClock", "equals", "(Ljava/lang/Object;)Z"⟩ : MethodName)) (z := (⟨"com/example/millrace/millrace/queue/JournalClock", "equals", "(Ljava/lang/Object;)Z"⟩ : MethodName)) hown (mvT hZ (hw _ (List.mem_of_getElem? (i := 16) rfl))) (mvT hZ (hw _ (List.mem_of_getElem? (i := 17) rfl))) (notFace_of_selects (args := #[]) (mvT hZ (hw _ (List.mem_of_getElem? (i := 19) rfl)))) (mvT hZ (hw _ (List.mem_of_getElem? (i := 19) rfl))) (mvT hZ (hw _ (List.mem_of_getElem? (i := 18) rfl))) (by decide) (backOf (W := 0) (rm3L l Z a0 hw [] b250 b307_0 (T307.heap) n0 Z318 F307_1) hZ (hw _ (List.mem_of_getElem? (i := 20) rfl)) (hw _ (List.mem_of_getElem? (i := 2) rfl)) (by decide) (by decide)) q320a q320c (g := (mkF m 252 #[.val (.long q0), .second, .val (.long q1), .second, .val (.long q2), .second, .val (.long q3), .second, .val (.int p4), .val (.int v2), .val (.ref b250), .val (.long (-9223372036854775808 : Int64)), .second, .val (.long (-9223372036854775808 : Int64)), .second, .val (.long (0 : Int64)), .second, .val (.long v41), .second, .val (.long v43), .second, .val (.long v45), .second, .val (.ref b273), .val (.int v46), .val (.ref b307_0), .val (.int (0 : Int32)), .val (.int (1 : Int32))] [(.ref b307_0), (.ref b250)])) rfl (by rw [hml]; rfl) (Steps.refl _) (argsL := [(.ref b307_0)]) (rest := []) (lenOf pd6 rfl) rfl (by show 2 * 0 + _ ≤ _; exact Nat.le_of_eq rfl) (hb hby at_252) (fun _ _ => ⟨rfl, (rfl : T307.heap = T307.heap), (by decide : 3 + 0 ≤ _), (by decide : 7 + 0 ≤ _)⟩)
        dsimp only [Pt.U, Pt.locs, Pt.cells, Pt.slots] at X320 l320 y320 z320 st320 hQ320
        subst l320 y320 z320
        obtain ⟨rfl, N320q, e320⟩ := hQ320
        have N320 := Fr.app N307 N320q
        obtain ⟨cq321, kq321, q321a, q321b, q321c⟩ := isOf hZ e320 F310
        obtain ⟨_, _, ⟨T321, L321, k321, n321⟩, -, X321, ⟨Lc321, hQ321, l321, y321, z321⟩, st321⟩ := X320.virtualBack hx (y := (⟨"com/example/millrace/millrace/queue/JournalClock", "equals", "(Ljava/lang/Object;)Z"⟩ : MethodName)) (z := (⟨"com/example/millrace/millrace/queue/JournalClock", "equals", "(Ljava/lang/Object;)Z"⟩ : MethodName)) hown (mvT hZ (hw _ (List.mem_of_getElem? (i := 16) rfl))) (mvT hZ (hw _ (List.mem_of_getElem? (i := 17) rfl))) (notFace_of_selects (args := #[]) (mvT hZ (hw _ (List.mem_of_getElem? (i := 19) rfl)))) (mvT hZ (hw _ (List.mem_of_getElem? (i := 19) rfl))) (mvT hZ (hw _ (List.mem_of_getElem? (i := 18) rfl))) (by decide) (backOf (W := 0) (rm3j l Z a0 hw [] b250 b250 (-9223372036854775808 : Int64) (-9223372036854775808 : Int64) (-9223372036854775808 : Int64) (-9223372036854775808 : Int64) (0 : Int64) (0 : Int64) (T307.heap) n0 Z318 F310 F311 F311 F312 F312 F313 F313) hZ (hw _ (List.mem_of_getElem? (i := 20) rfl)) (hw _ (List.mem_of_getElem? (i := 2) rfl)) (by decide) (by decide)) q321a q321c (g := (mkF m 269 #[.val (.long q0), .second, .val (.long q1), .second, .val (.long q2), .second, .val (.long q3), .second, .val (.int p4), .val (.int v2), .val (.ref b250), .val (.long (-9223372036854775808 : Int64)), .second, .val (.long (-9223372036854775808 : Int64)), .second, .val (.long (0 : Int64)), .second, .val (.long v41), .second, .val (.long v43), .second, .val (.long v45), .second, .val (.ref b273), .val (.int v46), .val (.ref b307_0), .val (.int (0 : Int32)), .val (.int (1 : Int32))] [(.ref b250), (.ref b250)])) rfl (by rw [hml]; rfl) (Steps.refl _) (argsL := [(.ref b250)]) (rest := []) (lenOf pd6 rfl) rfl (by show 2 * 0 + _ ≤ _; exact Nat.le_of_eq rfl) (hb hby at_269) (fun _ _ => ⟨rfl, e320, (by decide : 3 + 0 ≤ _), (by decide : 7 + 0 ≤ _)⟩)
        dsimp only [Pt.U, Pt.locs, Pt.cells, Pt.slots] at X321 l321 y321 z321 st321 hQ321
        subst l321 y321 z321
        obtain ⟨rfl, N321q, e321⟩ := hQ321
        have N321 := Fr.app N320 N321q
        obtain ⟨v53, hv53⟩ : ∃ z : Int32, z = (if (own_r3j (-9223372036854775808 : Int64) (-9223372036854775808 : Int64) (-9223372036854775808 : Int64) (-9223372036854775808 : Int64) (0 : Int64) (0 : Int64)) = (0 : Int32) then (0 : Int32) else (1 : Int32)) := ⟨_, rfl⟩
        obtain ⟨T324, lc324, X324, N324, e324, st324⟩ := own_mrg (n0 := n0) (h := T307.heap) (g := (mkF m 272 #[.val (.long q0), .second, .val (.long q1), .second, .val (.long q2), .second, .val (.long q3), .second, .val (.int p4), .val (.int v2), .val (.ref b250), .val (.long (-9223372036854775808 : Int64)), .second, .val (.long (-9223372036854775808 : Int64)), .second, .val (.long (0 : Int64)), .second, .val (.long v41), .second, .val (.long v43), .second, .val (.long v45), .second, .val (.ref b273), .val (.int v46), .val (.ref b307_0), .val (.int (0 : Int32)), .val (.int (1 : Int32))] [(.int (own_r3j (-9223372036854775808 : Int64) (-9223372036854775808 : Int64) (-9223372036854775808 : Int64) (-9223372036854775808 : Int64) (0 : Int64) (0 : Int64)))])) (g' := (mkF m 280 #[.val (.long q0), .second, .val (.long q1), .second, .val (.long q2), .second, .val (.long q3), .second, .val (.int p4), .val (.int v2), .val (.ref b250), .val (.long (-9223372036854775808 : Int64)), .second, .val (.long (-9223372036854775808 : Int64)), .second, .val (.long (0 : Int64)), .second, .val (.long v41), .second, .val (.long v43), .second, .val (.long v45), .second, .val (.ref b273), .val (.int v46), .val (.ref b307_0), .val (.int (0 : Int32)), .val (.int (1 : Int32))] [(.int v53)])) X321 (by
          by_cases hc272_52 : (own_r3j (-9223372036854775808 : Int64) (-9223372036854775808 : Int64) (-9223372036854775808 : Int64) (-9223372036854775808 : Int64) (0 : Int64) (0 : Int64)) = (0 : Int32)
          · have hgo322 : ∀ t, Steps p.tables e below (T321.setTop (mkF m 280 #[.val (.long q0), .second, .val (.long q1), .second, .val (.long q2), .second, .val (.long q3), .second, .val (.int p4), .val (.int v2), .val (.ref b250), .val (.long (-9223372036854775808 : Int64)), .second, .val (.long (-9223372036854775808 : Int64)), .second, .val (.long (0 : Int64)), .second, .val (.long v41), .second, .val (.long v43), .second, .val (.long v45), .second, .val (.ref b273), .val (.int v46), .val (.ref b307_0), .val (.int (0 : Int32)), .val (.int (1 : Int32))] [(.int (0 : Int32))])) t → Steps p.tables e below (T321.setTop (mkF m 272 #[.val (.long q0), .second, .val (.long q1), .second, .val (.long q2), .second, .val (.long q3), .second, .val (.int p4), .val (.int v2), .val (.ref b250), .val (.long (-9223372036854775808 : Int64)), .second, .val (.long (-9223372036854775808 : Int64)), .second, .val (.long (0 : Int64)), .second, .val (.long v41), .second, .val (.long v43), .second, .val (.long v45), .second, .val (.ref b273), .val (.int v46), .val (.ref b307_0), .val (.int (0 : Int32)), .val (.int (1 : Int32))] [(.int (own_r3j (-9223372036854775808 : Int64) (-9223372036854775808 : Int64) (-9223372036854775808 : Int64) (-9223372036854775808 : Int64) (0 : Int64) (0 : Int64)))])) t := by
              intro t kt
              show Steps p.tables e below (T321.setTop (mkF m 272 #[.val (.long q0), .second, .val (.long q1), .second, .val (.long q2), .second, .val (.long q3), .second, .val (.int p4), .val (.int v2), .val (.ref b250), .val (.long (-9223372036854775808 : Int64)), .second, .val (.long (-9223372036854775808 : Int64)), .second, .val (.long (0 : Int64)), .second, .val (.long v41), .second, .val (.long v43), .second, .val (.long v45), .second, .val (.ref b273), .val (.int v46), .val (.ref b307_0), .val (.int (0 : Int32)), .val (.int (1 : Int32))] [(.int (own_r3j (-9223372036854775808 : Int64) (-9223372036854775808 : Int64) (-9223372036854775808 : Int64) (-9223372036854775808 : Int64) (0 : Int64) (0 : Int64)))])) _
              refine XS.ifYes X321.here hx rfl (pc0 := 272) (pc' := 279) rfl (hb hby at_272) rfl ((if0 _ _).trans (teq hc272_52).1) (by decide) (by decide) ?_
              show Steps p.tables e below (T321.setTop (mkF m 279 #[.val (.long q0), .second, .val (.long q1), .second, .val (.long q2), .second, .val (.long q3), .second, .val (.int p4), .val (.int v2), .val (.ref b250), .val (.long (-9223372036854775808 : Int64)), .second, .val (.long (-9223372036854775808 : Int64)), .second, .val (.long (0 : Int64)), .second, .val (.long v41), .second, .val (.long v43), .second, .val (.long v45), .second, .val (.ref b273), .val (.int v46), .val (.ref b307_0), .val (.int (0 : Int32)), .val (.int (1 : Int32))] [])) _
              refine XS.iconst X321.here hx rfl (hb hby at_279) ?_
              exact kt
            refine own_arm hgo322 ?_
            exact own_armEnd X321 N321 e321 (by rw [hv53.trans (if_pos hc272_52)])
          · have hgo323 : ∀ t, Steps p.tables e below (T321.setTop (mkF m 280 #[.val (.long q0), .second, .val (.long q1), .second, .val (.long q2), .second, .val (.long q3), .second, .val (.int p4), .val (.int v2), .val (.ref b250), .val (.long (-9223372036854775808 : Int64)), .second, .val (.long (-9223372036854775808 : Int64)), .second, .val (.long (0 : Int64)), .second, .val (.long v41), .second, .val (.long v43), .second, .val (.long v45), .second, .val (.ref b273), .val (.int v46), .val (.ref b307_0), .val (.int (0 : Int32)), .val (.int (1 : Int32))] [(.int (1 : Int32))])) t → Steps p.tables e below (T321.setTop (mkF m 272 #[.val (.long q0), .second, .val (.long q1), .second, .val (.long q2), .second, .val (.long q3), .second, .val (.int p4), .val (.int v2), .val (.ref b250), .val (.long (-9223372036854775808 : Int64)), .second, .val (.long (-9223372036854775808 : Int64)), .second, .val (.long (0 : Int64)), .second, .val (.long v41), .second, .val (.long v43), .second, .val (.long v45), .second, .val (.ref b273), .val (.int v46), .val (.ref b307_0), .val (.int (0 : Int32)), .val (.int (1 : Int32))] [(.int (own_r3j (-9223372036854775808 : Int64) (-9223372036854775808 : Int64) (-9223372036854775808 : Int64) (-9223372036854775808 : Int64) (0 : Int64) (0 : Int64)))])) t := by
              intro t kt
              show Steps p.tables e below (T321.setTop (mkF m 272 #[.val (.long q0), .second, .val (.long q1), .second, .val (.long q2), .second, .val (.long q3), .second, .val (.int p4), .val (.int v2), .val (.ref b250), .val (.long (-9223372036854775808 : Int64)), .second, .val (.long (-9223372036854775808 : Int64)), .second, .val (.long (0 : Int64)), .second, .val (.long v41), .second, .val (.long v43), .second, .val (.long v45), .second, .val (.ref b273), .val (.int v46), .val (.ref b307_0), .val (.int (0 : Int32)), .val (.int (1 : Int32))] [(.int (own_r3j (-9223372036854775808 : Int64) (-9223372036854775808 : Int64) (-9223372036854775808 : Int64) (-9223372036854775808 : Int64) (0 : Int64) (0 : Int64)))])) _
              refine XS.ifNo X321.here hx rfl (hb hby at_272) rfl ((if0 _ _).trans (feq hc272_52).1) ?_
              show Steps p.tables e below (T321.setTop (mkF m 275 #[.val (.long q0), .second, .val (.long q1), .second, .val (.long q2), .second, .val (.long q3), .second, .val (.int p4), .val (.int v2), .val (.ref b250), .val (.long (-9223372036854775808 : Int64)), .second, .val (.long (-9223372036854775808 : Int64)), .second, .val (.long (0 : Int64)), .second, .val (.long v41), .second, .val (.long v43), .second, .val (.long v45), .second, .val (.ref b273), .val (.int v46), .val (.ref b307_0), .val (.int (0 : Int32)), .val (.int (1 : Int32))] [])) _
              refine XS.iconst X321.here hx rfl (hb hby at_275) ?_
              show Steps p.tables e below (T321.setTop (mkF m 276 #[.val (.long q0), .second, .val (.long q1), .second, .val (.long q2), .second, .val (.long q3), .second, .val (.int p4), .val (.int v2), .val (.ref b250), .val (.long (-9223372036854775808 : Int64)), .second, .val (.long (-9223372036854775808 : Int64)), .second, .val (.long (0 : Int64)), .second, .val (.long v41), .second, .val (.long v43), .second, .val (.long v45), .second, .val (.ref b273), .val (.int v46), .val (.ref b307_0), .val (.int (0 : Int32)), .val (.int (1 : Int32))] [(.int (1 : Int32))])) _
              refine XS.goto X321.here hx rfl (pc0 := 276) (pc' := 280) rfl (hb hby at_276) (by decide) (by decide) ?_
              exact kt
            refine own_arm hgo323 ?_
            exact own_armEnd X321 N321 e321 (by rw [hv53.trans (if_neg hc272_52)]))
        have hgo325 : ∀ t, Steps p.tables e below (T324.setTop (mkF m 280 #[.val (.long q0), .second, .val (.long q1), .second, .val (.long q2), .second, .val (.long q3), .second, .val (.int p4), .val (.int v2), .val (.ref b250), .val (.long (-9223372036854775808 : Int64)), .second, .val (.long (-9223372036854775808 : Int64)), .second, .val (.long (0 : Int64)), .second, .val (.long v41), .second, .val (.long v43), .second, .val (.long v45), .second, .val (.ref b273), .val (.int v46), .val (.ref b307_0), .val (.int (0 : Int32)), .val (.int (1 : Int32))] [(.int v53)])) t → Steps p.tables e below (T285.setTop (mkF m 172 #[.val (.long q0), .second, .val (.long q1), .second, .val (.long q2), .second, .val (.long q3), .second, .val (.int p4), .val (.int v2), .val (.ref b250), .val (.long (-9223372036854775808 : Int64)), .second, .val (.long (-9223372036854775808 : Int64)), .second, .val (.long (0 : Int64)), .second, .val (.long v41), .second, .val (.long v43), .second, .val (.long v45), .second, .val (.ref b273), .val (.int v46), .unset, .unset, .unset] [(.int (1 : Int32)), (.int v46)])) t := by
          intro t kt
          show Steps p.tables e below (T285.setTop (mkF m 172 #[.val (.long q0), .second, .val (.long q1), .second, .val (.long q2), .second, .val (.long q3), .second, .val (.int p4), .val (.int v2), .val (.ref b250), .val (.long (-9223372036854775808 : Int64)), .second, .val (.long (-9223372036854775808 : Int64)), .second, .val (.long (0 : Int64)), .second, .val (.long v41), .second, .val (.long v43), .second, .val (.long v45), .second, .val (.ref b273), .val (.int v46), .unset, .unset, .unset] [(.int (1 : Int32)), (.int v46)])) _
          refine XS.icmpNo X285.here hx rfl (hb hby at_172) rfl (teq hc172_51).2 ?_
          show Steps p.tables e below (T285.setTop (mkF m 175 #[.val (.long q0), .second, .val (.long q1), .second, .val (.long q2), .second, .val (.long q3), .second, .val (.int p4), .val (.int v2), .val (.ref b250), .val (.long (-9223372036854775808 : Int64)), .second, .val (.long (-9223372036854775808 : Int64)), .second, .val (.long (0 : Int64)), .second, .val (.long v41), .second, .val (.long v43), .second, .val (.long v45), .second, .val (.ref b273), .val (.int v46), .unset, .unset, .unset] [])) _
          refine XS.lload X285.here hx rfl (hb hby at_175) rfl ?_
          show Steps p.tables e below (T285.setTop (mkF m 177 #[.val (.long q0), .second, .val (.long q1), .second, .val (.long q2), .second, .val (.long q3), .second, .val (.int p4), .val (.int v2), .val (.ref b250), .val (.long (-9223372036854775808 : Int64)), .second, .val (.long (-9223372036854775808 : Int64)), .second, .val (.long (0 : Int64)), .second, .val (.long v41), .second, .val (.long v43), .second, .val (.long v45), .second, .val (.ref b273), .val (.int v46), .unset, .unset, .unset] [(.long (-9223372036854775808 : Int64))])) _
          refine st307 _ ?_
          show Steps p.tables e below (T307.setTop (mkF m 180 #[.val (.long q0), .second, .val (.long q1), .second, .val (.long q2), .second, .val (.long q3), .second, .val (.int p4), .val (.int v2), .val (.ref b250), .val (.long (-9223372036854775808 : Int64)), .second, .val (.long (-9223372036854775808 : Int64)), .second, .val (.long (0 : Int64)), .second, .val (.long v41), .second, .val (.long v43), .second, .val (.long v45), .second, .val (.ref b273), .val (.int v46), .unset, .unset, .unset] [(.ref b307_0)])) _
          refine XS.astore X307.here hx rfl (hb hby at_180) rfl rfl (l' := #[.val (.long q0), .second, .val (.long q1), .second, .val (.long q2), .second, .val (.long q3), .second, .val (.int p4), .val (.int v2), .val (.ref b250), .val (.long (-9223372036854775808 : Int64)), .second, .val (.long (-9223372036854775808 : Int64)), .second, .val (.long (0 : Int64)), .second, .val (.long v41), .second, .val (.long v43), .second, .val (.long v45), .second, .val (.ref b273), .val (.int v46), .val (.ref b307_0), .unset, .unset]) rfl ?_
          show Steps p.tables e below (T307.setTop (mkF m 182 #[.val (.long q0), .second, .val (.long q1), .second, .val (.long q2), .second, .val (.long q3), .second, .val (.int p4), .val (.int v2), .val (.ref b250), .val (.long (-9223372036854775808 : Int64)), .second, .val (.long (-9223372036854775808 : Int64)), .second, .val (.long (0 : Int64)), .second, .val (.long v41), .second, .val (.long v43), .second, .val (.long v45), .second, .val (.ref b273), .val (.int v46), .val (.ref b307_0), .unset, .unset] [])) _
          refine XS.iconst X307.here hx rfl (hb hby at_182) ?_
          show Steps p.tables e below (T307.setTop (mkF m 183 #[.val (.long q0), .second, .val (.long q1), .second, .val (.long q2), .second, .val (.long q3), .second, .val (.int p4), .val (.int v2), .val (.ref b250), .val (.long (-9223372036854775808 : Int64)), .second, .val (.long (-9223372036854775808 : Int64)), .second, .val (.long (0 : Int64)), .second, .val (.long v41), .second, .val (.long v43), .second, .val (.long v45), .second, .val (.ref b273), .val (.int v46), .val (.ref b307_0), .unset, .unset] [(.int (0 : Int32))])) _
          refine XS.istore X307.here hx rfl (hb hby at_183) rfl (l' := #[.val (.long q0), .second, .val (.long q1), .second, .val (.long q2), .second, .val (.long q3), .second, .val (.int p4), .val (.int v2), .val (.ref b250), .val (.long (-9223372036854775808 : Int64)), .second, .val (.long (-9223372036854775808 : Int64)), .second, .val (.long (0 : Int64)), .second, .val (.long v41), .second, .val (.long v43), .second, .val (.long v45), .second, .val (.ref b273), .val (.int v46), .val (.ref b307_0), .val (.int (0 : Int32)), .unset]) rfl ?_
          show Steps p.tables e below (T307.setTop (mkF m 185 #[.val (.long q0), .second, .val (.long q1), .second, .val (.long q2), .second, .val (.long q3), .second, .val (.int p4), .val (.int v2), .val (.ref b250), .val (.long (-9223372036854775808 : Int64)), .second, .val (.long (-9223372036854775808 : Int64)), .second, .val (.long (0 : Int64)), .second, .val (.long v41), .second, .val (.long v43), .second, .val (.long v45), .second, .val (.ref b273), .val (.int v46), .val (.ref b307_0), .val (.int (0 : Int32)), .unset] [])) _
          refine XS.goto X307.here hx rfl (pc0 := 185) (pc' := 223) rfl (hb hby at_185) (by decide) (by decide) ?_
          show Steps p.tables e below (T307.setTop (mkF m 223 #[.val (.long q0), .second, .val (.long q1), .second, .val (.long q2), .second, .val (.long q3), .second, .val (.int p4), .val (.int v2), .val (.ref b250), .val (.long (-9223372036854775808 : Int64)), .second, .val (.long (-9223372036854775808 : Int64)), .second, .val (.long (0 : Int64)), .second, .val (.long v41), .second, .val (.long v43), .second, .val (.long v45), .second, .val (.ref b273), .val (.int v46), .val (.ref b307_0), .val (.int (0 : Int32)), .unset] [])) _
          refine XS.iload X307.here hx rfl (hb hby at_223) rfl ?_
          show Steps p.tables e below (T307.setTop (mkF m 225 #[.val (.long q0), .second, .val (.long q1), .second, .val (.long q2), .second, .val (.long q3), .second, .val (.int p4), .val (.int v2), .val (.ref b250), .val (.long (-9223372036854775808 : Int64)), .second, .val (.long (-9223372036854775808 : Int64)), .second, .val (.long (0 : Int64)), .second, .val (.long v41), .second, .val (.long v43), .second, .val (.long v45), .second, .val (.ref b273), .val (.int v46), .val (.ref b307_0), .val (.int (0 : Int32)), .unset] [(.int v46)])) _
          refine XS.iconst X307.here hx rfl (hb hby at_225) ?_
          show Steps p.tables e below (T307.setTop (mkF m 226 #[.val (.long q0), .second, .val (.long q1), .second, .val (.long q2), .second, .val (.long q3), .second, .val (.int p4), .val (.int v2), .val (.ref b250), .val (.long (-9223372036854775808 : Int64)), .second, .val (.long (-9223372036854775808 : Int64)), .second, .val (.long (0 : Int64)), .second, .val (.long v41), .second, .val (.long v43), .second, .val (.long v45), .second, .val (.ref b273), .val (.int v46), .val (.ref b307_0), .val (.int (0 : Int32)), .unset] [(.int (2 : Int32)), (.int v46)])) _
          refine XS.icmpYes X307.here hx rfl (pc0 := 226) (pc' := 241) rfl (hb hby at_226) rfl (tlt (by have y0 := hc172_51; simp only [Int32.lt_iff_toInt_lt, ← Int32.toInt_inj, Int32.reduceToInt] at y0 ⊢; omega : v46 < (2 : Int32))).1 (by decide) (by decide) ?_
          show Steps p.tables e below (T307.setTop (mkF m 241 #[.val (.long q0), .second, .val (.long q1), .second, .val (.long q2), .second, .val (.long q3), .second, .val (.int p4), .val (.int v2), .val (.ref b250), .val (.long (-9223372036854775808 : Int64)), .second, .val (.long (-9223372036854775808 : Int64)), .second, .val (.long (0 : Int64)), .second, .val (.long v41), .second, .val (.long v43), .second, .val (.long v45), .second, .val (.ref b273), .val (.int v46), .val (.ref b307_0), .val (.int (0 : Int32)), .unset] [])) _
          refine XS.iconst X307.here hx rfl (hb hby at_241) ?_
          show Steps p.tables e below (T307.setTop (mkF m 242 #[.val (.long q0), .second, .val (.long q1), .second, .val (.long q2), .second, .val (.long q3), .second, .val (.int p4), .val (.int v2), .val (.ref b250), .val (.long (-9223372036854775808 : Int64)), .second, .val (.long (-9223372036854775808 : Int64)), .second, .val (.long (0 : Int64)), .second, .val (.long v41), .second, .val (.long v43), .second, .val (.long v45), .second, .val (.ref b273), .val (.int v46), .val (.ref b307_0), .val (.int (0 : Int32)), .unset] [(.int (1 : Int32))])) _
          refine XS.goto X307.here hx rfl (pc0 := 242) (pc' := 246) rfl (hb hby at_242) (by decide) (by decide) ?_
          show Steps p.tables e below (T307.setTop (mkF m 246 #[.val (.long q0), .second, .val (.long q1), .second, .val (.long q2), .second, .val (.long q3), .second, .val (.int p4), .val (.int v2), .val (.ref b250), .val (.long (-9223372036854775808 : Int64)), .second, .val (.long (-9223372036854775808 : Int64)), .second, .val (.long (0 : Int64)), .second, .val (.long v41), .second, .val (.long v43), .second, .val (.long v45), .second, .val (.ref b273), .val (.int v46), .val (.ref b307_0), .val (.int (0 : Int32)), .unset] [(.int (1 : Int32))])) _
          refine XS.istore X307.here hx rfl (hb hby at_246) rfl (l' := #[.val (.long q0), .second, .val (.long q1), .second, .val (.long q2), .second, .val (.long q3), .second, .val (.int p4), .val (.int v2), .val (.ref b250), .val (.long (-9223372036854775808 : Int64)), .second, .val (.long (-9223372036854775808 : Int64)), .second, .val (.long (0 : Int64)), .second, .val (.long v41), .second, .val (.long v43), .second, .val (.long v45), .second, .val (.ref b273), .val (.int v46), .val (.ref b307_0), .val (.int (0 : Int32)), .val (.int (1 : Int32))]) rfl ?_
          show Steps p.tables e below (T307.setTop (mkF m 248 #[.val (.long q0), .second, .val (.long q1), .second, .val (.long q2), .second, .val (.long q3), .second, .val (.int p4), .val (.int v2), .val (.ref b250), .val (.long (-9223372036854775808 : Int64)), .second, .val (.long (-9223372036854775808 : Int64)), .second, .val (.long (0 : Int64)), .second, .val (.long v41), .second, .val (.long v43), .second, .val (.long v45), .second, .val (.ref b273), .val (.int v46), .val (.ref b307_0), .val (.int (0 : Int32)), .val (.int (1 : Int32))] [])) _
          refine XS.aload X307.here hx rfl (hb hby at_248) rfl rfl ?_
          show Steps p.tables e below (T307.setTop (mkF m 250 #[.val (.long q0), .second, .val (.long q1), .second, .val (.long q2), .second, .val (.long q3), .second, .val (.int p4), .val (.int v2), .val (.ref b250), .val (.long (-9223372036854775808 : Int64)), .second, .val (.long (-9223372036854775808 : Int64)), .second, .val (.long (0 : Int64)), .second, .val (.long v41), .second, .val (.long v43), .second, .val (.long v45), .second, .val (.ref b273), .val (.int v46), .val (.ref b307_0), .val (.int (0 : Int32)), .val (.int (1 : Int32))] [(.ref b250)])) _
          refine XS.aload X307.here hx rfl (hb hby at_250) rfl rfl ?_
          show Steps p.tables e below (T307.setTop (mkF m 252 #[.val (.long q0), .second, .val (.long q1), .second, .val (.long q2), .second, .val (.long q3), .second, .val (.int p4), .val (.int v2), .val (.ref b250), .val (.long (-9223372036854775808 : Int64)), .second, .val (.long (-9223372036854775808 : Int64)), .second, .val (.long (0 : Int64)), .second, .val (.long v41), .second, .val (.long v43), .second, .val (.long v45), .second, .val (.ref b273), .val (.int v46), .val (.ref b307_0), .val (.int (0 : Int32)), .val (.int (1 : Int32))] [(.ref b307_0), (.ref b250)])) _
          refine st320.trans ?_
          show Steps p.tables e below (T320.setTop (mkF m 255 #[.val (.long q0), .second, .val (.long q1), .second, .val (.long q2), .second, .val (.long q3), .second, .val (.int p4), .val (.int v2), .val (.ref b250), .val (.long (-9223372036854775808 : Int64)), .second, .val (.long (-9223372036854775808 : Int64)), .second, .val (.long (0 : Int64)), .second, .val (.long v41), .second, .val (.long v43), .second, .val (.long v45), .second, .val (.ref b273), .val (.int v46), .val (.ref b307_0), .val (.int (0 : Int32)), .val (.int (1 : Int32))] [(.int (0 : Int32))])) _
          refine XS.iload X320.here hx rfl (hb hby at_255) rfl ?_
          show Steps p.tables e below (T320.setTop (mkF m 257 #[.val (.long q0), .second, .val (.long q1), .second, .val (.long q2), .second, .val (.long q3), .second, .val (.int p4), .val (.int v2), .val (.ref b250), .val (.long (-9223372036854775808 : Int64)), .second, .val (.long (-9223372036854775808 : Int64)), .second, .val (.long (0 : Int64)), .second, .val (.long v41), .second, .val (.long v43), .second, .val (.long v45), .second, .val (.ref b273), .val (.int v46), .val (.ref b307_0), .val (.int (0 : Int32)), .val (.int (1 : Int32))] [(.int (0 : Int32)), (.int (0 : Int32))])) _
          refine XS.icmpNo X320.here hx rfl (hb hby at_257) rfl (teq (by decide : (0 : Int32) = (0 : Int32))).2 ?_
          show Steps p.tables e below (T320.setTop (mkF m 260 #[.val (.long q0), .second, .val (.long q1), .second, .val (.long q2), .second, .val (.long q3), .second, .val (.int p4), .val (.int v2), .val (.ref b250), .val (.long (-9223372036854775808 : Int64)), .second, .val (.long (-9223372036854775808 : Int64)), .second, .val (.long (0 : Int64)), .second, .val (.long v41), .second, .val (.long v43), .second, .val (.long v45), .second, .val (.ref b273), .val (.int v46), .val (.ref b307_0), .val (.int (0 : Int32)), .val (.int (1 : Int32))] [])) _
          refine XS.iload X320.here hx rfl (hb hby at_260) rfl ?_
          show Steps p.tables e below (T320.setTop (mkF m 262 #[.val (.long q0), .second, .val (.long q1), .second, .val (.long q2), .second, .val (.long q3), .second, .val (.int p4), .val (.int v2), .val (.ref b250), .val (.long (-9223372036854775808 : Int64)), .second, .val (.long (-9223372036854775808 : Int64)), .second, .val (.long (0 : Int64)), .second, .val (.long v41), .second, .val (.long v43), .second, .val (.long v45), .second, .val (.ref b273), .val (.int v46), .val (.ref b307_0), .val (.int (0 : Int32)), .val (.int (1 : Int32))] [(.int (1 : Int32))])) _
          refine XS.ifNo X320.here hx rfl (hb hby at_262) rfl ((if0 _ _).trans (feq (by decide : ¬ ((1 : Int32) = (0 : Int32)))).1) ?_
          show Steps p.tables e below (T320.setTop (mkF m 265 #[.val (.long q0), .second, .val (.long q1), .second, .val (.long q2), .second, .val (.long q3), .second, .val (.int p4), .val (.int v2), .val (.ref b250), .val (.long (-9223372036854775808 : Int64)), .second, .val (.long (-9223372036854775808 : Int64)), .second, .val (.long (0 : Int64)), .second, .val (.long v41), .second, .val (.long v43), .second, .val (.long v45), .second, .val (.ref b273), .val (.int v46), .val (.ref b307_0), .val (.int (0 : Int32)), .val (.int (1 : Int32))] [])) _
          refine XS.aload X320.here hx rfl (hb hby at_265) rfl rfl ?_
          show Steps p.tables e below (T320.setTop (mkF m 267 #[.val (.long q0), .second, .val (.long q1), .second, .val (.long q2), .second, .val (.long q3), .second, .val (.int p4), .val (.int v2), .val (.ref b250), .val (.long (-9223372036854775808 : Int64)), .second, .val (.long (-9223372036854775808 : Int64)), .second, .val (.long (0 : Int64)), .second, .val (.long v41), .second, .val (.long v43), .second, .val (.long v45), .second, .val (.ref b273), .val (.int v46), .val (.ref b307_0), .val (.int (0 : Int32)), .val (.int (1 : Int32))] [(.ref b250)])) _
          refine XS.aload X320.here hx rfl (hb hby at_267) rfl rfl ?_
          show Steps p.tables e below (T320.setTop (mkF m 269 #[.val (.long q0), .second, .val (.long q1), .second, .val (.long q2), .second, .val (.long q3), .second, .val (.int p4), .val (.int v2), .val (.ref b250), .val (.long (-9223372036854775808 : Int64)), .second, .val (.long (-9223372036854775808 : Int64)), .second, .val (.long (0 : Int64)), .second, .val (.long v41), .second, .val (.long v43), .second, .val (.long v45), .second, .val (.ref b273), .val (.int v46), .val (.ref b307_0), .val (.int (0 : Int32)), .val (.int (1 : Int32))] [(.ref b250), (.ref b250)])) _
          refine st321.trans ?_
          show Steps p.tables e below (T321.setTop (mkF m 272 #[.val (.long q0), .second, .val (.long q1), .second, .val (.long q2), .second, .val (.long q3), .second, .val (.int p4), .val (.int v2), .val (.ref b250), .val (.long (-9223372036854775808 : Int64)), .second, .val (.long (-9223372036854775808 : Int64)), .second, .val (.long (0 : Int64)), .second, .val (.long v41), .second, .val (.long v43), .second, .val (.long v45), .second, .val (.ref b273), .val (.int v46), .val (.ref b307_0), .val (.int (0 : Int32)), .val (.int (1 : Int32))] [(.int (own_r3j (-9223372036854775808 : Int64) (-9223372036854775808 : Int64) (-9223372036854775808 : Int64) (-9223372036854775808 : Int64) (0 : Int64) (0 : Int64)))])) _
          refine st324 _ ?_
          exact kt
        refine own_go hgo325 ?_
        have hz326 : v53 = 1 := own_leaf6 (q0 := q0) (q1 := q1) (q2 := q2) (q3 := q3) (p4 := p4) (ulc := ulc) hv2 hv41 hv43 hv45 hv46 hv53 hc17_3 hc157_47 hc172_51
        exact own_retZ X324 hx Bd.returns Bd.notSynchronized (hb hby at_280) (by decide) (by decide) (Or.inr hz326) ⟨by rw [hz326], N324⟩
      · obtain ⟨v57, hv57⟩ : ∃ z : Int32, z = (if v45 = (0 : Int64) then (1 : Int32) else (0 : Int32)) := ⟨_, rfl⟩
        obtain ⟨v58, hv58⟩ : ∃ z : Int32, z = (if v43 = (-9223372036854775808 : Int64) then v57 else (0 : Int32)) := ⟨_, rfl⟩
        obtain ⟨v59, hv59⟩ : ∃ z : Int32, z = (if v41 = (-9223372036854775808 : Int64) then v58 else (0 : Int32)) := ⟨_, rfl⟩
        obtain ⟨T335, lc335, X335, N335, e335, st335⟩ := own_mrg (n0 := n0) (h := T285.heap) (g := (mkF m 197 #[.val (.long q0), .second, .val (.long q1), .second, .val (.long q2), .second, .val (.long q3), .second, .val (.int p4), .val (.int v2), .val (.ref b250), .val (.long (-9223372036854775808 : Int64)), .second, .val (.long (-9223372036854775808 : Int64)), .second, .val (.long (0 : Int64)), .second, .val (.long v41), .second, .val (.long v43), .second, .val (.long v45), .second, .val (.ref b273), .val (.int v46), .val (.ref b273), .unset, .unset] [(.int (lcmpW v41 (-9223372036854775808 : Int64)))])) (g' := (mkF m 221 #[.val (.long q0), .second, .val (.long q1), .second, .val (.long q2), .second, .val (.long q3), .second, .val (.int p4), .val (.int v2), .val (.ref b250), .val (.long (-9223372036854775808 : Int64)), .second, .val (.long (-9223372036854775808 : Int64)), .second, .val (.long (0 : Int64)), .second, .val (.long v41), .second, .val (.long v43), .second, .val (.long v45), .second, .val (.ref b273), .val (.int v46), .val (.ref b273), .unset, .unset] [(.int v59)])) X285 (by
          by_cases hc197_54 : v41 = (-9223372036854775808 : Int64)
          · obtain ⟨T332, lc332, X332, N332, e332, st332⟩ := own_mrg (n0 := n0) (h := T285.heap) (g := (mkF m 205 #[.val (.long q0), .second, .val (.long q1), .second, .val (.long q2), .second, .val (.long q3), .second, .val (.int p4), .val (.int v2), .val (.ref b250), .val (.long (-9223372036854775808 : Int64)), .second, .val (.long (-9223372036854775808 : Int64)), .second, .val (.long (0 : Int64)), .second, .val (.long v41), .second, .val (.long v43), .second, .val (.long v45), .second, .val (.ref b273), .val (.int v46), .val (.ref b273), .unset, .unset] [(.int (lcmpW v43 (-9223372036854775808 : Int64)))])) (g' := (mkF m 221 #[.val (.long q0), .second, .val (.long q1), .second, .val (.long q2), .second, .val (.long q3), .second, .val (.int p4), .val (.int v2), .val (.ref b250), .val (.long (-9223372036854775808 : Int64)), .second, .val (.long (-9223372036854775808 : Int64)), .second, .val (.long (0 : Int64)), .second, .val (.long v41), .second, .val (.long v43), .second, .val (.long v45), .second, .val (.ref b273), .val (.int v46), .val (.ref b273), .unset, .unset] [(.int v58)])) X285 (by
              by_cases hc205_55 : v43 = (-9223372036854775808 : Int64)
              · obtain ⟨T329, lc329, X329, N329, e329, st329⟩ := own_mrg (n0 := n0) (h := T285.heap) (g := (mkF m 213 #[.val (.long q0), .second, .val (.long q1), .second, .val (.long q2), .second, .val (.long q3), .second, .val (.int p4), .val (.int v2), .val (.ref b250), .val (.long (-9223372036854775808 : Int64)), .second, .val (.long (-9223372036854775808 : Int64)), .second, .val (.long (0 : Int64)), .second, .val (.long v41), .second, .val (.long v43), .second, .val (.long v45), .second, .val (.ref b273), .val (.int v46), .val (.ref b273), .unset, .unset] [(.int (lcmpW v45 (0 : Int64)))])) (g' := (mkF m 221 #[.val (.long q0), .second, .val (.long q1), .second, .val (.long q2), .second, .val (.long q3), .second, .val (.int p4), .val (.int v2), .val (.ref b250), .val (.long (-9223372036854775808 : Int64)), .second, .val (.long (-9223372036854775808 : Int64)), .second, .val (.long (0 : Int64)), .second, .val (.long v41), .second, .val (.long v43), .second, .val (.long v45), .second, .val (.ref b273), .val (.int v46), .val (.ref b273), .unset, .unset] [(.int v57)])) X285 (by
                  by_cases hc213_56 : v45 = (0 : Int64)
                  · have hgo327 : ∀ t, Steps p.tables e below (T285.setTop (mkF m 221 #[.val (.long q0), .second, .val (.long q1), .second, .val (.long q2), .second, .val (.long q3), .second, .val (.int p4), .val (.int v2), .val (.ref b250), .val (.long (-9223372036854775808 : Int64)), .second, .val (.long (-9223372036854775808 : Int64)), .second, .val (.long (0 : Int64)), .second, .val (.long v41), .second, .val (.long v43), .second, .val (.long v45), .second, .val (.ref b273), .val (.int v46), .val (.ref b273), .unset, .unset] [(.int (1 : Int32))])) t → Steps p.tables e below (T285.setTop (mkF m 213 #[.val (.long q0), .second, .val (.long q1), .second, .val (.long q2), .second, .val (.long q3), .second, .val (.int p4), .val (.int v2), .val (.ref b250), .val (.long (-9223372036854775808 : Int64)), .second, .val (.long (-9223372036854775808 : Int64)), .second, .val (.long (0 : Int64)), .second, .val (.long v41), .second, .val (.long v43), .second, .val (.long v45), .second, .val (.ref b273), .val (.int v46), .val (.ref b273), .unset, .unset] [(.int (lcmpW v45 (0 : Int64)))])) t := by
                      intro t kt
                      show Steps p.tables e below (T285.setTop (mkF m 213 #[.val (.long q0), .second, .val (.long q1), .second, .val (.long q2), .second, .val (.long q3), .second, .val (.int p4), .val (.int v2), .val (.ref b250), .val (.long (-9223372036854775808 : Int64)), .second, .val (.long (-9223372036854775808 : Int64)), .second, .val (.long (0 : Int64)), .second, .val (.long v41), .second, .val (.long v43), .second, .val (.long v45), .second, .val (.ref b273), .val (.int v46), .val (.ref b273), .unset, .unset] [(.int (lcmpW v45 (0 : Int64)))])) _
                      refine XS.ifNo X285.here hx rfl (hb hby at_213) rfl ((if0 _ _).trans (teq (own_lc_eq hc213_56)).2) ?_
                      show Steps p.tables e below (T285.setTop (mkF m 216 #[.val (.long q0), .second, .val (.long q1), .second, .val (.long q2), .second, .val (.long q3), .second, .val (.int p4), .val (.int v2), .val (.ref b250), .val (.long (-9223372036854775808 : Int64)), .second, .val (.long (-9223372036854775808 : Int64)), .second, .val (.long (0 : Int64)), .second, .val (.long v41), .second, .val (.long v43), .second, .val (.long v45), .second, .val (.ref b273), .val (.int v46), .val (.ref b273), .unset, .unset] [])) _
                      refine XS.iconst X285.here hx rfl (hb hby at_216) ?_
                      show Steps p.tables e below (T285.setTop (mkF m 217 #[.val (.long q0), .second, .val (.long q1), .second, .val (.long q2), .second, .val (.long q3), .second, .val (.int p4), .val (.int v2), .val (.ref b250), .val (.long (-9223372036854775808 : Int64)), .second, .val (.long (-9223372036854775808 : Int64)), .second, .val (.long (0 : Int64)), .second, .val (.long v41), .second, .val (.long v43), .second, .val (.long v45), .second, .val (.ref b273), .val (.int v46), .val (.ref b273), .unset, .unset] [(.int (1 : Int32))])) _
                      refine XS.goto X285.here hx rfl (pc0 := 217) (pc' := 221) rfl (hb hby at_217) (by decide) (by decide) ?_
                      exact kt
                    refine own_arm hgo327 ?_
                    exact own_armEnd X285 N285 (rfl : T285.heap = T285.heap) (by rw [hv57.trans (if_pos hc213_56)])
                  · have hgo328 : ∀ t, Steps p.tables e below (T285.setTop (mkF m 221 #[.val (.long q0), .second, .val (.long q1), .second, .val (.long q2), .second, .val (.long q3), .second, .val (.int p4), .val (.int v2), .val (.ref b250), .val (.long (-9223372036854775808 : Int64)), .second, .val (.long (-9223372036854775808 : Int64)), .second, .val (.long (0 : Int64)), .second, .val (.long v41), .second, .val (.long v43), .second, .val (.long v45), .second, .val (.ref b273), .val (.int v46), .val (.ref b273), .unset, .unset] [(.int (0 : Int32))])) t → Steps p.tables e below (T285.setTop (mkF m 213 #[.val (.long q0), .second, .val (.long q1), .second, .val (.long q2), .second, .val (.long q3), .second, .val (.int p4), .val (.int v2), .val (.ref b250), .val (.long (-9223372036854775808 : Int64)), .second, .val (.long (-9223372036854775808 : Int64)), .second, .val (.long (0 : Int64)), .second, .val (.long v41), .second, .val (.long v43), .second, .val (.long v45), .second, .val (.ref b273), .val (.int v46), .val (.ref b273), .unset, .unset] [(.int (lcmpW v45 (0 : Int64)))])) t := by
                      intro t kt
                      show Steps p.tables e below (T285.setTop (mkF m 213 #[.val (.long q0), .second, .val (.long q1), .second, .val (.long q2), .second, .val (.long q3), .second, .val (.int p4), .val (.int v2), .val (.ref b250), .val (.long (-9223372036854775808 : Int64)), .second, .val (.long (-9223372036854775808 : Int64)), .second, .val (.long (0 : Int64)), .second, .val (.long v41), .second, .val (.long v43), .second, .val (.long v45), .second, .val (.ref b273), .val (.int v46), .val (.ref b273), .unset, .unset] [(.int (lcmpW v45 (0 : Int64)))])) _
                      refine XS.ifYes X285.here hx rfl (pc0 := 213) (pc' := 220) rfl (hb hby at_213) rfl ((if0 _ _).trans (feq (own_lc_neq hc213_56)).2) (by decide) (by decide) ?_
                      show Steps p.tables e below (T285.setTop (mkF m 220 #[.val (.long q0), .second, .val (.long q1), .second, .val (.long q2), .second, .val (.long q3), .second, .val (.int p4), .val (.int v2), .val (.ref b250), .val (.long (-9223372036854775808 : Int64)), .second, .val (.long (-9223372036854775808 : Int64)), .second, .val (.long (0 : Int64)), .second, .val (.long v41), .second, .val (.long v43), .second, .val (.long v45), .second, .val (.ref b273), .val (.int v46), .val (.ref b273), .unset, .unset] [])) _
                      refine XS.iconst X285.here hx rfl (hb hby at_220) ?_
                      exact kt
                    refine own_arm hgo328 ?_
                    exact own_armEnd X285 N285 (rfl : T285.heap = T285.heap) (by rw [hv57.trans (if_neg hc213_56)]))
                have hgo330 : ∀ t, Steps p.tables e below (T329.setTop (mkF m 221 #[.val (.long q0), .second, .val (.long q1), .second, .val (.long q2), .second, .val (.long q3), .second, .val (.int p4), .val (.int v2), .val (.ref b250), .val (.long (-9223372036854775808 : Int64)), .second, .val (.long (-9223372036854775808 : Int64)), .second, .val (.long (0 : Int64)), .second, .val (.long v41), .second, .val (.long v43), .second, .val (.long v45), .second, .val (.ref b273), .val (.int v46), .val (.ref b273), .unset, .unset] [(.int v57)])) t → Steps p.tables e below (T285.setTop (mkF m 205 #[.val (.long q0), .second, .val (.long q1), .second, .val (.long q2), .second, .val (.long q3), .second, .val (.int p4), .val (.int v2), .val (.ref b250), .val (.long (-9223372036854775808 : Int64)), .second, .val (.long (-9223372036854775808 : Int64)), .second, .val (.long (0 : Int64)), .second, .val (.long v41), .second, .val (.long v43), .second, .val (.long v45), .second, .val (.ref b273), .val (.int v46), .val (.ref b273), .unset, .unset] [(.int (lcmpW v43 (-9223372036854775808 : Int64)))])) t := by
                  intro t kt
                  show Steps p.tables e below (T285.setTop (mkF m 205 #[.val (.long q0), .second, .val (.long q1), .second, .val (.long q2), .second, .val (.long q3), .second, .val (.int p4), .val (.int v2), .val (.ref b250), .val (.long (-9223372036854775808 : Int64)), .second, .val (.long (-9223372036854775808 : Int64)), .second, .val (.long (0 : Int64)), .second, .val (.long v41), .second, .val (.long v43), .second, .val (.long v45), .second, .val (.ref b273), .val (.int v46), .val (.ref b273), .unset, .unset] [(.int (lcmpW v43 (-9223372036854775808 : Int64)))])) _
                  refine XS.ifNo X285.here hx rfl (hb hby at_205) rfl ((if0 _ _).trans (teq (own_lc_eq hc205_55)).2) ?_
                  show Steps p.tables e below (T285.setTop (mkF m 208 #[.val (.long q0), .second, .val (.long q1), .second, .val (.long q2), .second, .val (.long q3), .second, .val (.int p4), .val (.int v2), .val (.ref b250), .val (.long (-9223372036854775808 : Int64)), .second, .val (.long (-9223372036854775808 : Int64)), .second, .val (.long (0 : Int64)), .second, .val (.long v41), .second, .val (.long v43), .second, .val (.long v45), .second, .val (.ref b273), .val (.int v46), .val (.ref b273), .unset, .unset] [])) _
                  refine XS.lload X285.here hx rfl (hb hby at_208) rfl ?_
                  show Steps p.tables e below (T285.setTop (mkF m 210 #[.val (.long q0), .second, .val (.long q1), .second, .val (.long q2), .second, .val (.long q3), .second, .val (.int p4), .val (.int v2), .val (.ref b250), .val (.long (-9223372036854775808 : Int64)), .second, .val (.long (-9223372036854775808 : Int64)), .second, .val (.long (0 : Int64)), .second, .val (.long v41), .second, .val (.long v43), .second, .val (.long v45), .second, .val (.ref b273), .val (.int v46), .val (.ref b273), .unset, .unset] [(.long v45)])) _
                  refine XS.lload X285.here hx rfl (hb hby at_210) rfl ?_
                  show Steps p.tables e below (T285.setTop (mkF m 212 #[.val (.long q0), .second, .val (.long q1), .second, .val (.long q2), .second, .val (.long q3), .second, .val (.int p4), .val (.int v2), .val (.ref b250), .val (.long (-9223372036854775808 : Int64)), .second, .val (.long (-9223372036854775808 : Int64)), .second, .val (.long (0 : Int64)), .second, .val (.long v41), .second, .val (.long v43), .second, .val (.long v45), .second, .val (.ref b273), .val (.int v46), .val (.ref b273), .unset, .unset] [(.long (0 : Int64)), (.long v45)])) _
                  refine XS.lcmp X285.here hx rfl (hb hby at_212) rfl ?_
                  show Steps p.tables e below (T285.setTop (mkF m 213 #[.val (.long q0), .second, .val (.long q1), .second, .val (.long q2), .second, .val (.long q3), .second, .val (.int p4), .val (.int v2), .val (.ref b250), .val (.long (-9223372036854775808 : Int64)), .second, .val (.long (-9223372036854775808 : Int64)), .second, .val (.long (0 : Int64)), .second, .val (.long v41), .second, .val (.long v43), .second, .val (.long v45), .second, .val (.ref b273), .val (.int v46), .val (.ref b273), .unset, .unset] [(.int (lcmpW v45 (0 : Int64)))])) _
                  refine st329 _ ?_
                  exact kt
                refine own_arm hgo330 ?_
                exact own_armEnd X329 N329 e329 (by rw [hv58.trans (if_pos hc205_55)])
              · have hgo331 : ∀ t, Steps p.tables e below (T285.setTop (mkF m 221 #[.val (.long q0), .second, .val (.long q1), .second, .val (.long q2), .second, .val (.long q3), .second, .val (.int p4), .val (.int v2), .val (.ref b250), .val (.long (-9223372036854775808 : Int64)), .second, .val (.long (-9223372036854775808 : Int64)), .second, .val (.long (0 : Int64)), .second, .val (.long v41), .second, .val (.long v43), .second, .val (.long v45), .second, .val (.ref b273), .val (.int v46), .val (.ref b273), .unset, .unset] [(.int (0 : Int32))])) t → Steps p.tables e below (T285.setTop (mkF m 205 #[.val (.long q0), .second, .val (.long q1), .second, .val (.long q2), .second, .val (.long q3), .second, .val (.int p4), .val (.int v2), .val (.ref b250), .val (.long (-9223372036854775808 : Int64)), .second, .val (.long (-9223372036854775808 : Int64)), .second, .val (.long (0 : Int64)), .second, .val (.long v41), .second, .val (.long v43), .second, .val (.long v45), .second, .val (.ref b273), .val (.int v46), .val (.ref b273), .unset, .unset] [(.int (lcmpW v43 (-9223372036854775808 : Int64)))])) t := by
                  intro t kt
                  show Steps p.tables e below (T285.setTop (mkF m 205 #[.val (.long q0), .second, .val (.long q1), .second, .val (.long q2), .second, .val (.long q3), .second, .val (.int p4), .val (.int v2), .val (.ref b250), .val (.long (-9223372036854775808 : Int64)), .second, .val (.long (-9223372036854775808 : Int64)), .second, .val (.long (0 : Int64)), .second, .val (.long v41), .second, .val (.long v43), .second, .val (.long v45), .second, .val (.ref b273), .val (.int v46), .val (.ref b273), .unset, .unset] [(.int (lcmpW v43 (-9223372036854775808 : Int64)))])) _
                  refine XS.ifYes X285.here hx rfl (pc0 := 205) (pc' := 220) rfl (hb hby at_205) rfl ((if0 _ _).trans (feq (own_lc_neq hc205_55)).2) (by decide) (by decide) ?_
                  show Steps p.tables e below (T285.setTop (mkF m 220 #[.val (.long q0), .second, .val (.long q1), .second, .val (.long q2), .second, .val (.long q3), .second, .val (.int p4), .val (.int v2), .val (.ref b250), .val (.long (-9223372036854775808 : Int64)), .second, .val (.long (-9223372036854775808 : Int64)), .second, .val (.long (0 : Int64)), .second, .val (.long v41), .second, .val (.long v43), .second, .val (.long v45), .second, .val (.ref b273), .val (.int v46), .val (.ref b273), .unset, .unset] [])) _
                  refine XS.iconst X285.here hx rfl (hb hby at_220) ?_
                  exact kt
                refine own_arm hgo331 ?_
                exact own_armEnd X285 N285 (rfl : T285.heap = T285.heap) (by rw [hv58.trans (if_neg hc205_55)]))
            have hgo333 : ∀ t, Steps p.tables e below (T332.setTop (mkF m 221 #[.val (.long q0), .second, .val (.long q1), .second, .val (.long q2), .second, .val (.long q3), .second, .val (.int p4), .val (.int v2), .val (.ref b250), .val (.long (-9223372036854775808 : Int64)), .second, .val (.long (-9223372036854775808 : Int64)), .second, .val (.long (0 : Int64)), .second, .val (.long v41), .second, .val (.long v43), .second, .val (.long v45), .second, .val (.ref b273), .val (.int v46), .val (.ref b273), .unset, .unset] [(.int v58)])) t → Steps p.tables e below (T285.setTop (mkF m 197 #[.val (.long q0), .second, .val (.long q1), .second, .val (.long q2), .second, .val (.long q3), .second, .val (.int p4), .val (.int v2), .val (.ref b250), .val (.long (-9223372036854775808 : Int64)), .second, .val (.long (-9223372036854775808 : Int64)), .second, .val (.long (0 : Int64)), .second, .val (.long v41), .second, .val (.long v43), .second, .val (.long v45), .second, .val (.ref b273), .val (.int v46), .val (.ref b273), .unset, .unset] [(.int (lcmpW v41 (-9223372036854775808 : Int64)))])) t := by
              intro t kt
              show Steps p.tables e below (T285.setTop (mkF m 197 #[.val (.long q0), .second, .val (.long q1), .second, .val (.long q2), .second, .val (.long q3), .second, .val (.int p4), .val (.int v2), .val (.ref b250), .val (.long (-9223372036854775808 : Int64)), .second, .val (.long (-9223372036854775808 : Int64)), .second, .val (.long (0 : Int64)), .second, .val (.long v41), .second, .val (.long v43), .second, .val (.long v45), .second, .val (.ref b273), .val (.int v46), .val (.ref b273), .unset, .unset] [(.int (lcmpW v41 (-9223372036854775808 : Int64)))])) _
              refine XS.ifNo X285.here hx rfl (hb hby at_197) rfl ((if0 _ _).trans (teq (own_lc_eq hc197_54)).2) ?_
              show Steps p.tables e below (T285.setTop (mkF m 200 #[.val (.long q0), .second, .val (.long q1), .second, .val (.long q2), .second, .val (.long q3), .second, .val (.int p4), .val (.int v2), .val (.ref b250), .val (.long (-9223372036854775808 : Int64)), .second, .val (.long (-9223372036854775808 : Int64)), .second, .val (.long (0 : Int64)), .second, .val (.long v41), .second, .val (.long v43), .second, .val (.long v45), .second, .val (.ref b273), .val (.int v46), .val (.ref b273), .unset, .unset] [])) _
              refine XS.lload X285.here hx rfl (hb hby at_200) rfl ?_
              show Steps p.tables e below (T285.setTop (mkF m 202 #[.val (.long q0), .second, .val (.long q1), .second, .val (.long q2), .second, .val (.long q3), .second, .val (.int p4), .val (.int v2), .val (.ref b250), .val (.long (-9223372036854775808 : Int64)), .second, .val (.long (-9223372036854775808 : Int64)), .second, .val (.long (0 : Int64)), .second, .val (.long v41), .second, .val (.long v43), .second, .val (.long v45), .second, .val (.ref b273), .val (.int v46), .val (.ref b273), .unset, .unset] [(.long v43)])) _
              refine XS.lload X285.here hx rfl (hb hby at_202) rfl ?_
              show Steps p.tables e below (T285.setTop (mkF m 204 #[.val (.long q0), .second, .val (.long q1), .second, .val (.long q2), .second, .val (.long q3), .second, .val (.int p4), .val (.int v2), .val (.ref b250), .val (.long (-9223372036854775808 : Int64)), .second, .val (.long (-9223372036854775808 : Int64)), .second, .val (.long (0 : Int64)), .second, .val (.long v41), .second, .val (.long v43), .second, .val (.long v45), .second, .val (.ref b273), .val (.int v46), .val (.ref b273), .unset, .unset] [(.long (-9223372036854775808 : Int64)), (.long v43)])) _
              refine XS.lcmp X285.here hx rfl (hb hby at_204) rfl ?_
              show Steps p.tables e below (T285.setTop (mkF m 205 #[.val (.long q0), .second, .val (.long q1), .second, .val (.long q2), .second, .val (.long q3), .second, .val (.int p4), .val (.int v2), .val (.ref b250), .val (.long (-9223372036854775808 : Int64)), .second, .val (.long (-9223372036854775808 : Int64)), .second, .val (.long (0 : Int64)), .second, .val (.long v41), .second, .val (.long v43), .second, .val (.long v45), .second, .val (.ref b273), .val (.int v46), .val (.ref b273), .unset, .unset] [(.int (lcmpW v43 (-9223372036854775808 : Int64)))])) _
              refine st332 _ ?_
              exact kt
            refine own_arm hgo333 ?_
            exact own_armEnd X332 N332 e332 (by rw [hv59.trans (if_pos hc197_54)])
          · have hgo334 : ∀ t, Steps p.tables e below (T285.setTop (mkF m 221 #[.val (.long q0), .second, .val (.long q1), .second, .val (.long q2), .second, .val (.long q3), .second, .val (.int p4), .val (.int v2), .val (.ref b250), .val (.long (-9223372036854775808 : Int64)), .second, .val (.long (-9223372036854775808 : Int64)), .second, .val (.long (0 : Int64)), .second, .val (.long v41), .second, .val (.long v43), .second, .val (.long v45), .second, .val (.ref b273), .val (.int v46), .val (.ref b273), .unset, .unset] [(.int (0 : Int32))])) t → Steps p.tables e below (T285.setTop (mkF m 197 #[.val (.long q0), .second, .val (.long q1), .second, .val (.long q2), .second, .val (.long q3), .second, .val (.int p4), .val (.int v2), .val (.ref b250), .val (.long (-9223372036854775808 : Int64)), .second, .val (.long (-9223372036854775808 : Int64)), .second, .val (.long (0 : Int64)), .second, .val (.long v41), .second, .val (.long v43), .second, .val (.long v45), .second, .val (.ref b273), .val (.int v46), .val (.ref b273), .unset, .unset] [(.int (lcmpW v41 (-9223372036854775808 : Int64)))])) t := by
              intro t kt
              show Steps p.tables e below (T285.setTop (mkF m 197 #[.val (.long q0), .second, .val (.long q1), .second, .val (.long q2), .second, .val (.long q3), .second, .val (.int p4), .val (.int v2), .val (.ref b250), .val (.long (-9223372036854775808 : Int64)), .second, .val (.long (-9223372036854775808 : Int64)), .second, .val (.long (0 : Int64)), .second, .val (.long v41), .second, .val (.long v43), .second, .val (.long v45), .second, .val (.ref b273), .val (.int v46), .val (.ref b273), .unset, .unset] [(.int (lcmpW v41 (-9223372036854775808 : Int64)))])) _
              refine XS.ifYes X285.here hx rfl (pc0 := 197) (pc' := 220) rfl (hb hby at_197) rfl ((if0 _ _).trans (feq (own_lc_neq hc197_54)).2) (by decide) (by decide) ?_
              show Steps p.tables e below (T285.setTop (mkF m 220 #[.val (.long q0), .second, .val (.long q1), .second, .val (.long q2), .second, .val (.long q3), .second, .val (.int p4), .val (.int v2), .val (.ref b250), .val (.long (-9223372036854775808 : Int64)), .second, .val (.long (-9223372036854775808 : Int64)), .second, .val (.long (0 : Int64)), .second, .val (.long v41), .second, .val (.long v43), .second, .val (.long v45), .second, .val (.ref b273), .val (.int v46), .val (.ref b273), .unset, .unset] [])) _
              refine XS.iconst X285.here hx rfl (hb hby at_220) ?_
              exact kt
            refine own_arm hgo334 ?_
            exact own_armEnd X285 N285 (rfl : T285.heap = T285.heap) (by rw [hv59.trans (if_neg hc197_54)]))
        obtain ⟨v62, hv62⟩ : ∃ z : Int32, z = (if (own_r3j (-9223372036854775808 : Int64) v41 (-9223372036854775808 : Int64) v43 (0 : Int64) v45) = v59 then (1 : Int32) else (0 : Int32)) := ⟨_, rfl⟩
        obtain ⟨v63, hv63⟩ : ∃ z : Int32, z = (if v46 < (2 : Int32) then (1 : Int32) else v62) := ⟨_, rfl⟩
        obtain ⟨T342, lc342, X342, N342, e342, st342⟩ := own_mrg (n0 := n0) (h := T285.heap) (g := (mkF m 226 #[.val (.long q0), .second, .val (.long q1), .second, .val (.long q2), .second, .val (.long q3), .second, .val (.int p4), .val (.int v2), .val (.ref b250), .val (.long (-9223372036854775808 : Int64)), .second, .val (.long (-9223372036854775808 : Int64)), .second, .val (.long (0 : Int64)), .second, .val (.long v41), .second, .val (.long v43), .second, .val (.long v45), .second, .val (.ref b273), .val (.int v46), .val (.ref b273), .val (.int v59), .unset] [(.int (2 : Int32)), (.int v46)])) (g' := (mkF m 246 #[.val (.long q0), .second, .val (.long q1), .second, .val (.long q2), .second, .val (.long q3), .second, .val (.int p4), .val (.int v2), .val (.ref b250), .val (.long (-9223372036854775808 : Int64)), .second, .val (.long (-9223372036854775808 : Int64)), .second, .val (.long (0 : Int64)), .second, .val (.long v41), .second, .val (.long v43), .second, .val (.long v45), .second, .val (.ref b273), .val (.int v46), .val (.ref b273), .val (.int v59), .unset] [(.int v63)])) X335 (by
          by_cases hc226_60 : v46 < (2 : Int32)
          · have hgo336 : ∀ t, Steps p.tables e below (T335.setTop (mkF m 246 #[.val (.long q0), .second, .val (.long q1), .second, .val (.long q2), .second, .val (.long q3), .second, .val (.int p4), .val (.int v2), .val (.ref b250), .val (.long (-9223372036854775808 : Int64)), .second, .val (.long (-9223372036854775808 : Int64)), .second, .val (.long (0 : Int64)), .second, .val (.long v41), .second, .val (.long v43), .second, .val (.long v45), .second, .val (.ref b273), .val (.int v46), .val (.ref b273), .val (.int v59), .unset] [(.int (1 : Int32))])) t → Steps p.tables e below (T335.setTop (mkF m 226 #[.val (.long q0), .second, .val (.long q1), .second, .val (.long q2), .second, .val (.long q3), .second, .val (.int p4), .val (.int v2), .val (.ref b250), .val (.long (-9223372036854775808 : Int64)), .second, .val (.long (-9223372036854775808 : Int64)), .second, .val (.long (0 : Int64)), .second, .val (.long v41), .second, .val (.long v43), .second, .val (.long v45), .second, .val (.ref b273), .val (.int v46), .val (.ref b273), .val (.int v59), .unset] [(.int (2 : Int32)), (.int v46)])) t := by
              intro t kt
              show Steps p.tables e below (T335.setTop (mkF m 226 #[.val (.long q0), .second, .val (.long q1), .second, .val (.long q2), .second, .val (.long q3), .second, .val (.int p4), .val (.int v2), .val (.ref b250), .val (.long (-9223372036854775808 : Int64)), .second, .val (.long (-9223372036854775808 : Int64)), .second, .val (.long (0 : Int64)), .second, .val (.long v41), .second, .val (.long v43), .second, .val (.long v45), .second, .val (.ref b273), .val (.int v46), .val (.ref b273), .val (.int v59), .unset] [(.int (2 : Int32)), (.int v46)])) _
              refine XS.icmpYes X335.here hx rfl (pc0 := 226) (pc' := 241) rfl (hb hby at_226) rfl (tlt hc226_60).1 (by decide) (by decide) ?_
              show Steps p.tables e below (T335.setTop (mkF m 241 #[.val (.long q0), .second, .val (.long q1), .second, .val (.long q2), .second, .val (.long q3), .second, .val (.int p4), .val (.int v2), .val (.ref b250), .val (.long (-9223372036854775808 : Int64)), .second, .val (.long (-9223372036854775808 : Int64)), .second, .val (.long (0 : Int64)), .second, .val (.long v41), .second, .val (.long v43), .second, .val (.long v45), .second, .val (.ref b273), .val (.int v46), .val (.ref b273), .val (.int v59), .unset] [])) _
              refine XS.iconst X335.here hx rfl (hb hby at_241) ?_
              show Steps p.tables e below (T335.setTop (mkF m 242 #[.val (.long q0), .second, .val (.long q1), .second, .val (.long q2), .second, .val (.long q3), .second, .val (.int p4), .val (.int v2), .val (.ref b250), .val (.long (-9223372036854775808 : Int64)), .second, .val (.long (-9223372036854775808 : Int64)), .second, .val (.long (0 : Int64)), .second, .val (.long v41), .second, .val (.long v43), .second, .val (.long v45), .second, .val (.ref b273), .val (.int v46), .val (.ref b273), .val (.int v59), .unset] [(.int (1 : Int32))])) _
              refine XS.goto X335.here hx rfl (pc0 := 242) (pc' := 246) rfl (hb hby at_242) (by decide) (by decide) ?_
              exact kt
            refine own_arm hgo336 ?_
            exact own_armEnd X335 N335 e335 (by rw [hv63.trans (if_pos hc226_60)])
          · obtain ⟨cq337, kq337, q337a, q337b, q337c⟩ := isOf hZ e335 F285_0
            obtain ⟨_, _, ⟨T337, L337, k337, n337⟩, -, X337, ⟨Lc337, hQ337, l337, y337, z337⟩, st337⟩ := X335.virtualBack hx (y := (⟨"com/example/millrace/millrace/queue/JournalClock", "equals", "(Ljava/lang/Object;)Z"⟩ : MethodName)) (z := (⟨"com/example/millrace/millrace/queue/JournalClock", "equals", "(Ljava/lang/Object;)Z"⟩ : MethodName)) hown (mvT hZ (hw _ (List.mem_of_getElem? (i := 16) rfl))) (mvT hZ (hw _ (List.mem_of_getElem? (i := 17) rfl))) (notFace_of_selects (args := #[]) (mvT hZ (hw _ (List.mem_of_getElem? (i := 19) rfl)))) (mvT hZ (hw _ (List.mem_of_getElem? (i := 19) rfl))) (mvT hZ (hw _ (List.mem_of_getElem? (i := 18) rfl))) (by decide) (backOf (W := 0) (rm3j l Z a0 hw [] b273 b250 (-9223372036854775808 : Int64) v41 (-9223372036854775808 : Int64) v43 (0 : Int64) v45 (T285.heap) n0 Z293 F288 F289 F285_1 F290 F285_2 F291 F285_3) hZ (hw _ (List.mem_of_getElem? (i := 20) rfl)) (hw _ (List.mem_of_getElem? (i := 2) rfl)) (by decide) (by decide)) q337a q337c (g := (mkF m 233 #[.val (.long q0), .second, .val (.long q1), .second, .val (.long q2), .second, .val (.long q3), .second, .val (.int p4), .val (.int v2), .val (.ref b250), .val (.long (-9223372036854775808 : Int64)), .second, .val (.long (-9223372036854775808 : Int64)), .second, .val (.long (0 : Int64)), .second, .val (.long v41), .second, .val (.long v43), .second, .val (.long v45), .second, .val (.ref b273), .val (.int v46), .val (.ref b273), .val (.int v59), .unset] [(.ref b250), (.ref b273)])) rfl (by rw [hml]; rfl) (Steps.refl _) (argsL := [(.ref b250)]) (rest := []) (lenOf pd6 rfl) rfl (by show 2 * 0 + _ ≤ _; exact Nat.le_of_eq rfl) (hb hby at_233) (fun _ _ => ⟨rfl, e335, (by decide : 2 + 0 ≤ _), (by decide : 6 + 0 ≤ _)⟩)
            dsimp only [Pt.U, Pt.locs, Pt.cells, Pt.slots] at X337 l337 y337 z337 st337 hQ337
            subst l337 y337 z337
            obtain ⟨rfl, N337q, e337⟩ := hQ337
            have N337 := Fr.app N335 N337q
            obtain ⟨T340, lc340, X340, N340, e340, st340⟩ := own_mrg (n0 := n0) (h := T285.heap) (g := (mkF m 238 #[.val (.long q0), .second, .val (.long q1), .second, .val (.long q2), .second, .val (.long q3), .second, .val (.int p4), .val (.int v2), .val (.ref b250), .val (.long (-9223372036854775808 : Int64)), .second, .val (.long (-9223372036854775808 : Int64)), .second, .val (.long (0 : Int64)), .second, .val (.long v41), .second, .val (.long v43), .second, .val (.long v45), .second, .val (.ref b273), .val (.int v46), .val (.ref b273), .val (.int v59), .unset] [(.int v59), (.int (own_r3j (-9223372036854775808 : Int64) v41 (-9223372036854775808 : Int64) v43 (0 : Int64) v45))])) (g' := (mkF m 246 #[.val (.long q0), .second, .val (.long q1), .second, .val (.long q2), .second, .val (.long q3), .second, .val (.int p4), .val (.int v2), .val (.ref b250), .val (.long (-9223372036854775808 : Int64)), .second, .val (.long (-9223372036854775808 : Int64)), .second, .val (.long (0 : Int64)), .second, .val (.long v41), .second, .val (.long v43), .second, .val (.long v45), .second, .val (.ref b273), .val (.int v46), .val (.ref b273), .val (.int v59), .unset] [(.int v62)])) X337 (by
              by_cases hc238_61 : (own_r3j (-9223372036854775808 : Int64) v41 (-9223372036854775808 : Int64) v43 (0 : Int64) v45) = v59
              · have hgo338 : ∀ t, Steps p.tables e below (T337.setTop (mkF m 246 #[.val (.long q0), .second, .val (.long q1), .second, .val (.long q2), .second, .val (.long q3), .second, .val (.int p4), .val (.int v2), .val (.ref b250), .val (.long (-9223372036854775808 : Int64)), .second, .val (.long (-9223372036854775808 : Int64)), .second, .val (.long (0 : Int64)), .second, .val (.long v41), .second, .val (.long v43), .second, .val (.long v45), .second, .val (.ref b273), .val (.int v46), .val (.ref b273), .val (.int v59), .unset] [(.int (1 : Int32))])) t → Steps p.tables e below (T337.setTop (mkF m 238 #[.val (.long q0), .second, .val (.long q1), .second, .val (.long q2), .second, .val (.long q3), .second, .val (.int p4), .val (.int v2), .val (.ref b250), .val (.long (-9223372036854775808 : Int64)), .second, .val (.long (-9223372036854775808 : Int64)), .second, .val (.long (0 : Int64)), .second, .val (.long v41), .second, .val (.long v43), .second, .val (.long v45), .second, .val (.ref b273), .val (.int v46), .val (.ref b273), .val (.int v59), .unset] [(.int v59), (.int (own_r3j (-9223372036854775808 : Int64) v41 (-9223372036854775808 : Int64) v43 (0 : Int64) v45))])) t := by
                  intro t kt
                  show Steps p.tables e below (T337.setTop (mkF m 238 #[.val (.long q0), .second, .val (.long q1), .second, .val (.long q2), .second, .val (.long q3), .second, .val (.int p4), .val (.int v2), .val (.ref b250), .val (.long (-9223372036854775808 : Int64)), .second, .val (.long (-9223372036854775808 : Int64)), .second, .val (.long (0 : Int64)), .second, .val (.long v41), .second, .val (.long v43), .second, .val (.long v45), .second, .val (.ref b273), .val (.int v46), .val (.ref b273), .val (.int v59), .unset] [(.int v59), (.int (own_r3j (-9223372036854775808 : Int64) v41 (-9223372036854775808 : Int64) v43 (0 : Int64) v45))])) _
                  refine XS.icmpNo X337.here hx rfl (hb hby at_238) rfl (teq hc238_61).2 ?_
                  show Steps p.tables e below (T337.setTop (mkF m 241 #[.val (.long q0), .second, .val (.long q1), .second, .val (.long q2), .second, .val (.long q3), .second, .val (.int p4), .val (.int v2), .val (.ref b250), .val (.long (-9223372036854775808 : Int64)), .second, .val (.long (-9223372036854775808 : Int64)), .second, .val (.long (0 : Int64)), .second, .val (.long v41), .second, .val (.long v43), .second, .val (.long v45), .second, .val (.ref b273), .val (.int v46), .val (.ref b273), .val (.int v59), .unset] [])) _
                  refine XS.iconst X337.here hx rfl (hb hby at_241) ?_
                  show Steps p.tables e below (T337.setTop (mkF m 242 #[.val (.long q0), .second, .val (.long q1), .second, .val (.long q2), .second, .val (.long q3), .second, .val (.int p4), .val (.int v2), .val (.ref b250), .val (.long (-9223372036854775808 : Int64)), .second, .val (.long (-9223372036854775808 : Int64)), .second, .val (.long (0 : Int64)), .second, .val (.long v41), .second, .val (.long v43), .second, .val (.long v45), .second, .val (.ref b273), .val (.int v46), .val (.ref b273), .val (.int v59), .unset] [(.int (1 : Int32))])) _
                  refine XS.goto X337.here hx rfl (pc0 := 242) (pc' := 246) rfl (hb hby at_242) (by decide) (by decide) ?_
                  exact kt
                refine own_arm hgo338 ?_
                exact own_armEnd X337 N337 e337 (by rw [hv62.trans (if_pos hc238_61)])
              · have hgo339 : ∀ t, Steps p.tables e below (T337.setTop (mkF m 246 #[.val (.long q0), .second, .val (.long q1), .second, .val (.long q2), .second, .val (.long q3), .second, .val (.int p4), .val (.int v2), .val (.ref b250), .val (.long (-9223372036854775808 : Int64)), .second, .val (.long (-9223372036854775808 : Int64)), .second, .val (.long (0 : Int64)), .second, .val (.long v41), .second, .val (.long v43), .second, .val (.long v45), .second, .val (.ref b273), .val (.int v46), .val (.ref b273), .val (.int v59), .unset] [(.int (0 : Int32))])) t → Steps p.tables e below (T337.setTop (mkF m 238 #[.val (.long q0), .second, .val (.long q1), .second, .val (.long q2), .second, .val (.long q3), .second, .val (.int p4), .val (.int v2), .val (.ref b250), .val (.long (-9223372036854775808 : Int64)), .second, .val (.long (-9223372036854775808 : Int64)), .second, .val (.long (0 : Int64)), .second, .val (.long v41), .second, .val (.long v43), .second, .val (.long v45), .second, .val (.ref b273), .val (.int v46), .val (.ref b273), .val (.int v59), .unset] [(.int v59), (.int (own_r3j (-9223372036854775808 : Int64) v41 (-9223372036854775808 : Int64) v43 (0 : Int64) v45))])) t := by
                  intro t kt
                  show Steps p.tables e below (T337.setTop (mkF m 238 #[.val (.long q0), .second, .val (.long q1), .second, .val (.long q2), .second, .val (.long q3), .second, .val (.int p4), .val (.int v2), .val (.ref b250), .val (.long (-9223372036854775808 : Int64)), .second, .val (.long (-9223372036854775808 : Int64)), .second, .val (.long (0 : Int64)), .second, .val (.long v41), .second, .val (.long v43), .second, .val (.long v45), .second, .val (.ref b273), .val (.int v46), .val (.ref b273), .val (.int v59), .unset] [(.int v59), (.int (own_r3j (-9223372036854775808 : Int64) v41 (-9223372036854775808 : Int64) v43 (0 : Int64) v45))])) _
                  refine XS.icmpYes X337.here hx rfl (pc0 := 238) (pc' := 245) rfl (hb hby at_238) rfl (feq hc238_61).2 (by decide) (by decide) ?_
                  show Steps p.tables e below (T337.setTop (mkF m 245 #[.val (.long q0), .second, .val (.long q1), .second, .val (.long q2), .second, .val (.long q3), .second, .val (.int p4), .val (.int v2), .val (.ref b250), .val (.long (-9223372036854775808 : Int64)), .second, .val (.long (-9223372036854775808 : Int64)), .second, .val (.long (0 : Int64)), .second, .val (.long v41), .second, .val (.long v43), .second, .val (.long v45), .second, .val (.ref b273), .val (.int v46), .val (.ref b273), .val (.int v59), .unset] [])) _
                  refine XS.iconst X337.here hx rfl (hb hby at_245) ?_
                  exact kt
                refine own_arm hgo339 ?_
                exact own_armEnd X337 N337 e337 (by rw [hv62.trans (if_neg hc238_61)]))
            have hgo341 : ∀ t, Steps p.tables e below (T340.setTop (mkF m 246 #[.val (.long q0), .second, .val (.long q1), .second, .val (.long q2), .second, .val (.long q3), .second, .val (.int p4), .val (.int v2), .val (.ref b250), .val (.long (-9223372036854775808 : Int64)), .second, .val (.long (-9223372036854775808 : Int64)), .second, .val (.long (0 : Int64)), .second, .val (.long v41), .second, .val (.long v43), .second, .val (.long v45), .second, .val (.ref b273), .val (.int v46), .val (.ref b273), .val (.int v59), .unset] [(.int v62)])) t → Steps p.tables e below (T335.setTop (mkF m 226 #[.val (.long q0), .second, .val (.long q1), .second, .val (.long q2), .second, .val (.long q3), .second, .val (.int p4), .val (.int v2), .val (.ref b250), .val (.long (-9223372036854775808 : Int64)), .second, .val (.long (-9223372036854775808 : Int64)), .second, .val (.long (0 : Int64)), .second, .val (.long v41), .second, .val (.long v43), .second, .val (.long v45), .second, .val (.ref b273), .val (.int v46), .val (.ref b273), .val (.int v59), .unset] [(.int (2 : Int32)), (.int v46)])) t := by
              intro t kt
              show Steps p.tables e below (T335.setTop (mkF m 226 #[.val (.long q0), .second, .val (.long q1), .second, .val (.long q2), .second, .val (.long q3), .second, .val (.int p4), .val (.int v2), .val (.ref b250), .val (.long (-9223372036854775808 : Int64)), .second, .val (.long (-9223372036854775808 : Int64)), .second, .val (.long (0 : Int64)), .second, .val (.long v41), .second, .val (.long v43), .second, .val (.long v45), .second, .val (.ref b273), .val (.int v46), .val (.ref b273), .val (.int v59), .unset] [(.int (2 : Int32)), (.int v46)])) _
              refine XS.icmpNo X335.here hx rfl (hb hby at_226) rfl (flt hc226_60).1 ?_
              show Steps p.tables e below (T335.setTop (mkF m 229 #[.val (.long q0), .second, .val (.long q1), .second, .val (.long q2), .second, .val (.long q3), .second, .val (.int p4), .val (.int v2), .val (.ref b250), .val (.long (-9223372036854775808 : Int64)), .second, .val (.long (-9223372036854775808 : Int64)), .second, .val (.long (0 : Int64)), .second, .val (.long v41), .second, .val (.long v43), .second, .val (.long v45), .second, .val (.ref b273), .val (.int v46), .val (.ref b273), .val (.int v59), .unset] [])) _
              refine XS.aload X335.here hx rfl (hb hby at_229) rfl rfl ?_
              show Steps p.tables e below (T335.setTop (mkF m 231 #[.val (.long q0), .second, .val (.long q1), .second, .val (.long q2), .second, .val (.long q3), .second, .val (.int p4), .val (.int v2), .val (.ref b250), .val (.long (-9223372036854775808 : Int64)), .second, .val (.long (-9223372036854775808 : Int64)), .second, .val (.long (0 : Int64)), .second, .val (.long v41), .second, .val (.long v43), .second, .val (.long v45), .second, .val (.ref b273), .val (.int v46), .val (.ref b273), .val (.int v59), .unset] [(.ref b273)])) _
              refine XS.aload X335.here hx rfl (hb hby at_231) rfl rfl ?_
              show Steps p.tables e below (T335.setTop (mkF m 233 #[.val (.long q0), .second, .val (.long q1), .second, .val (.long q2), .second, .val (.long q3), .second, .val (.int p4), .val (.int v2), .val (.ref b250), .val (.long (-9223372036854775808 : Int64)), .second, .val (.long (-9223372036854775808 : Int64)), .second, .val (.long (0 : Int64)), .second, .val (.long v41), .second, .val (.long v43), .second, .val (.long v45), .second, .val (.ref b273), .val (.int v46), .val (.ref b273), .val (.int v59), .unset] [(.ref b250), (.ref b273)])) _
              refine st337.trans ?_
              show Steps p.tables e below (T337.setTop (mkF m 236 #[.val (.long q0), .second, .val (.long q1), .second, .val (.long q2), .second, .val (.long q3), .second, .val (.int p4), .val (.int v2), .val (.ref b250), .val (.long (-9223372036854775808 : Int64)), .second, .val (.long (-9223372036854775808 : Int64)), .second, .val (.long (0 : Int64)), .second, .val (.long v41), .second, .val (.long v43), .second, .val (.long v45), .second, .val (.ref b273), .val (.int v46), .val (.ref b273), .val (.int v59), .unset] [(.int (own_r3j (-9223372036854775808 : Int64) v41 (-9223372036854775808 : Int64) v43 (0 : Int64) v45))])) _
              refine XS.iload X337.here hx rfl (hb hby at_236) rfl ?_
              show Steps p.tables e below (T337.setTop (mkF m 238 #[.val (.long q0), .second, .val (.long q1), .second, .val (.long q2), .second, .val (.long q3), .second, .val (.int p4), .val (.int v2), .val (.ref b250), .val (.long (-9223372036854775808 : Int64)), .second, .val (.long (-9223372036854775808 : Int64)), .second, .val (.long (0 : Int64)), .second, .val (.long v41), .second, .val (.long v43), .second, .val (.long v45), .second, .val (.ref b273), .val (.int v46), .val (.ref b273), .val (.int v59), .unset] [(.int v59), (.int (own_r3j (-9223372036854775808 : Int64) v41 (-9223372036854775808 : Int64) v43 (0 : Int64) v45))])) _
              refine st340 _ ?_
              exact kt
            refine own_arm hgo341 ?_
            exact own_armEnd X340 N340 e340 (by rw [hv63.trans (if_neg hc226_60)]))
        obtain ⟨cq343, kq343, q343a, q343b, q343c⟩ := isOf hZ e342 F288
        obtain ⟨_, _, ⟨T343, L343, k343, n343⟩, -, X343, ⟨Lc343, hQ343, l343, y343, z343⟩, st343⟩ := X342.virtualBack hx (y := (⟨"com/example/millrace/millrace/queue/JournalClock", "equals", "(Ljava/lang/Object;)Z"⟩ : MethodName)) (z := (⟨"com/example/millrace/millrace/queue/JournalClock", "equals", "(Ljava/lang/Object;)Z"⟩ : MethodName)) hown (mvT hZ (hw _ (List.mem_of_getElem? (i := 16) rfl))) (mvT hZ (hw _ (List.mem_of_getElem? (i := 17) rfl))) (notFace_of_selects (args := #[]) (mvT hZ (hw _ (List.mem_of_getElem? (i := 19) rfl)))) (mvT hZ (hw _ (List.mem_of_getElem? (i := 19) rfl))) (mvT hZ (hw _ (List.mem_of_getElem? (i := 18) rfl))) (by decide) (backOf (W := 0) (rm3j l Z a0 hw [] b250 b273 v41 (-9223372036854775808 : Int64) v43 (-9223372036854775808 : Int64) v45 (0 : Int64) (T285.heap) n0 Z293 F285_0 F285_1 F289 F285_2 F290 F285_3 F291) hZ (hw _ (List.mem_of_getElem? (i := 20) rfl)) (hw _ (List.mem_of_getElem? (i := 2) rfl)) (by decide) (by decide)) q343a q343c (g := (mkF m 252 #[.val (.long q0), .second, .val (.long q1), .second, .val (.long q2), .second, .val (.long q3), .second, .val (.int p4), .val (.int v2), .val (.ref b250), .val (.long (-9223372036854775808 : Int64)), .second, .val (.long (-9223372036854775808 : Int64)), .second, .val (.long (0 : Int64)), .second, .val (.long v41), .second, .val (.long v43), .second, .val (.long v45), .second, .val (.ref b273), .val (.int v46), .val (.ref b273), .val (.int v59), .val (.int v63)] [(.ref b273), (.ref b250)])) rfl (by rw [hml]; rfl) (Steps.refl _) (argsL := [(.ref b273)]) (rest := []) (lenOf pd6 rfl) rfl (by show 2 * 0 + _ ≤ _; exact Nat.le_of_eq rfl) (hb hby at_252) (fun _ _ => ⟨rfl, e342, (by decide : 2 + 0 ≤ _), (by decide : 6 + 0 ≤ _)⟩)
        dsimp only [Pt.U, Pt.locs, Pt.cells, Pt.slots] at X343 l343 y343 z343 st343 hQ343
        subst l343 y343 z343
        obtain ⟨rfl, N343q, e343⟩ := hQ343
        have N343 := Fr.app N342 N343q
        obtain ⟨v67, hv67⟩ : ∃ z : Int32, z = (if (own_r3j (-9223372036854775808 : Int64) (-9223372036854775808 : Int64) (-9223372036854775808 : Int64) (-9223372036854775808 : Int64) (0 : Int64) (0 : Int64)) = (0 : Int32) then (0 : Int32) else (1 : Int32)) := ⟨_, rfl⟩
        obtain ⟨v68, hv68⟩ : ∃ z : Int32, z = (if v63 = (0 : Int32) then (0 : Int32) else v67) := ⟨_, rfl⟩
        obtain ⟨v69, hv69⟩ : ∃ z : Int32, z = (if (own_r3j v41 (-9223372036854775808 : Int64) v43 (-9223372036854775808 : Int64) v45 (0 : Int64)) = v59 then v68 else (0 : Int32)) := ⟨_, rfl⟩
        obtain ⟨T353, lc353, X353, N353, e353, st353⟩ := own_mrg (n0 := n0) (h := T285.heap) (g := (mkF m 257 #[.val (.long q0), .second, .val (.long q1), .second, .val (.long q2), .second, .val (.long q3), .second, .val (.int p4), .val (.int v2), .val (.ref b250), .val (.long (-9223372036854775808 : Int64)), .second, .val (.long (-9223372036854775808 : Int64)), .second, .val (.long (0 : Int64)), .second, .val (.long v41), .second, .val (.long v43), .second, .val (.long v45), .second, .val (.ref b273), .val (.int v46), .val (.ref b273), .val (.int v59), .val (.int v63)] [(.int v59), (.int (own_r3j v41 (-9223372036854775808 : Int64) v43 (-9223372036854775808 : Int64) v45 (0 : Int64)))])) (g' := (mkF m 280 #[.val (.long q0), .second, .val (.long q1), .second, .val (.long q2), .second, .val (.long q3), .second, .val (.int p4), .val (.int v2), .val (.ref b250), .val (.long (-9223372036854775808 : Int64)), .second, .val (.long (-9223372036854775808 : Int64)), .second, .val (.long (0 : Int64)), .second, .val (.long v41), .second, .val (.long v43), .second, .val (.long v45), .second, .val (.ref b273), .val (.int v46), .val (.ref b273), .val (.int v59), .val (.int v63)] [(.int v69)])) X343 (by
          by_cases hc257_64 : (own_r3j v41 (-9223372036854775808 : Int64) v43 (-9223372036854775808 : Int64) v45 (0 : Int64)) = v59
          · obtain ⟨T350, lc350, X350, N350, e350, st350⟩ := own_mrg (n0 := n0) (h := T285.heap) (g := (mkF m 262 #[.val (.long q0), .second, .val (.long q1), .second, .val (.long q2), .second, .val (.long q3), .second, .val (.int p4), .val (.int v2), .val (.ref b250), .val (.long (-9223372036854775808 : Int64)), .second, .val (.long (-9223372036854775808 : Int64)), .second, .val (.long (0 : Int64)), .second, .val (.long v41), .second, .val (.long v43), .second, .val (.long v45), .second, .val (.ref b273), .val (.int v46), .val (.ref b273), .val (.int v59), .val (.int v63)] [(.int v63)])) (g' := (mkF m 280 #[.val (.long q0), .second, .val (.long q1), .second, .val (.long q2), .second, .val (.long q3), .second, .val (.int p4), .val (.int v2), .val (.ref b250), .val (.long (-9223372036854775808 : Int64)), .second, .val (.long (-9223372036854775808 : Int64)), .second, .val (.long (0 : Int64)), .second, .val (.long v41), .second, .val (.long v43), .second, .val (.long v45), .second, .val (.ref b273), .val (.int v46), .val (.ref b273), .val (.int v59), .val (.int v63)] [(.int v68)])) X343 (by
              by_cases hc262_65 : v63 = (0 : Int32)
              · have hgo344 : ∀ t, Steps p.tables e below (T343.setTop (mkF m 280 #[.val (.long q0), .second, .val (.long q1), .second, .val (.long q2), .second, .val (.long q3), .second, .val (.int p4), .val (.int v2), .val (.ref b250), .val (.long (-9223372036854775808 : Int64)), .second, .val (.long (-9223372036854775808 : Int64)), .second, .val (.long (0 : Int64)), .second, .val (.long v41), .second, .val (.long v43), .second, .val (.long v45), .second, .val (.ref b273), .val (.int v46), .val (.ref b273), .val (.int v59), .val (.int v63)] [(.int (0 : Int32))])) t → Steps p.tables e below (T343.setTop (mkF m 262 #[.val (.long q0), .second, .val (.long q1), .second, .val (.long q2), .second, .val (.long q3), .second, .val (.int p4), .val (.int v2), .val (.ref b250), .val (.long (-9223372036854775808 : Int64)), .second, .val (.long (-9223372036854775808 : Int64)), .second, .val (.long (0 : Int64)), .second, .val (.long v41), .second, .val (.long v43), .second, .val (.long v45), .second, .val (.ref b273), .val (.int v46), .val (.ref b273), .val (.int v59), .val (.int v63)] [(.int v63)])) t := by
                  intro t kt
                  show Steps p.tables e below (T343.setTop (mkF m 262 #[.val (.long q0), .second, .val (.long q1), .second, .val (.long q2), .second, .val (.long q3), .second, .val (.int p4), .val (.int v2), .val (.ref b250), .val (.long (-9223372036854775808 : Int64)), .second, .val (.long (-9223372036854775808 : Int64)), .second, .val (.long (0 : Int64)), .second, .val (.long v41), .second, .val (.long v43), .second, .val (.long v45), .second, .val (.ref b273), .val (.int v46), .val (.ref b273), .val (.int v59), .val (.int v63)] [(.int v63)])) _
                  refine XS.ifYes X343.here hx rfl (pc0 := 262) (pc' := 279) rfl (hb hby at_262) rfl ((if0 _ _).trans (teq hc262_65).1) (by decide) (by decide) ?_
                  show Steps p.tables e below (T343.setTop (mkF m 279 #[.val (.long q0), .second, .val (.long q1), .second, .val (.long q2), .second, .val (.long q3), .second, .val (.int p4), .val (.int v2), .val (.ref b250), .val (.long (-9223372036854775808 : Int64)), .second, .val (.long (-9223372036854775808 : Int64)), .second, .val (.long (0 : Int64)), .second, .val (.long v41), .second, .val (.long v43), .second, .val (.long v45), .second, .val (.ref b273), .val (.int v46), .val (.ref b273), .val (.int v59), .val (.int v63)] [])) _
                  refine XS.iconst X343.here hx rfl (hb hby at_279) ?_
                  exact kt
                refine own_arm hgo344 ?_
                exact own_armEnd X343 N343 e343 (by rw [hv68.trans (if_pos hc262_65)])
              · obtain ⟨cq345, kq345, q345a, q345b, q345c⟩ := isOf hZ e343 F288
                obtain ⟨_, _, ⟨T345, L345, k345, n345⟩, -, X345, ⟨Lc345, hQ345, l345, y345, z345⟩, st345⟩ := X343.virtualBack hx (y := (⟨"com/example/millrace/millrace/queue/JournalClock", "equals", "(Ljava/lang/Object;)Z"⟩ : MethodName)) (z := (⟨"com/example/millrace/millrace/queue/JournalClock", "equals", "(Ljava/lang/Object;)Z"⟩ : MethodName)) hown (mvT hZ (hw _ (List.mem_of_getElem? (i := 16) rfl))) (mvT hZ (hw _ (List.mem_of_getElem? (i := 17) rfl))) (notFace_of_selects (args := #[]) (mvT hZ (hw _ (List.mem_of_getElem? (i := 19) rfl)))) (mvT hZ (hw _ (List.mem_of_getElem? (i := 19) rfl))) (mvT hZ (hw _ (List.mem_of_getElem? (i := 18) rfl))) (by decide) (backOf (W := 0) (rm3j l Z a0 hw [] b250 b250 (-9223372036854775808 : Int64) (-9223372036854775808 : Int64) (-9223372036854775808 : Int64) (-9223372036854775808 : Int64) (0 : Int64) (0 : Int64) (T285.heap) n0 Z293 F288 F289 F289 F290 F290 F291 F291) hZ (hw _ (List.mem_of_getElem? (i := 20) rfl)) (hw _ (List.mem_of_getElem? (i := 2) rfl)) (by decide) (by decide)) q345a q345c (g := (mkF m 269 #[.val (.long q0), .second, .val (.long q1), .second, .val (.long q2), .second, .val (.long q3), .second, .val (.int p4), .val (.int v2), .val (.ref b250), .val (.long (-9223372036854775808 : Int64)), .second, .val (.long (-9223372036854775808 : Int64)), .second, .val (.long (0 : Int64)), .second, .val (.long v41), .second, .val (.long v43), .second, .val (.long v45), .second, .val (.ref b273), .val (.int v46), .val (.ref b273), .val (.int v59), .val (.int v63)] [(.ref b250), (.ref b250)])) rfl (by rw [hml]; rfl) (Steps.refl _) (argsL := [(.ref b250)]) (rest := []) (lenOf pd6 rfl) rfl (by show 2 * 0 + _ ≤ _; exact Nat.le_of_eq rfl) (hb hby at_269) (fun _ _ => ⟨rfl, e343, (by decide : 2 + 0 ≤ _), (by decide : 6 + 0 ≤ _)⟩)
                dsimp only [Pt.U, Pt.locs, Pt.cells, Pt.slots] at X345 l345 y345 z345 st345 hQ345
                subst l345 y345 z345
                obtain ⟨rfl, N345q, e345⟩ := hQ345
                have N345 := Fr.app N343 N345q
                obtain ⟨T348, lc348, X348, N348, e348, st348⟩ := own_mrg (n0 := n0) (h := T285.heap) (g := (mkF m 272 #[.val (.long q0), .second, .val (.long q1), .second, .val (.long q2), .second, .val (.long q3), .second, .val (.int p4), .val (.int v2), .val (.ref b250), .val (.long (-9223372036854775808 : Int64)), .second, .val (.long (-9223372036854775808 : Int64)), .second, .val (.long (0 : Int64)), .second, .val (.long v41), .second, .val (.long v43), .second, .val (.long v45), .second, .val (.ref b273), .val (.int v46), .val (.ref b273), .val (.int v59), .val (.int v63)] [(.int (own_r3j (-9223372036854775808 : Int64) (-9223372036854775808 : Int64) (-9223372036854775808 : Int64) (-9223372036854775808 : Int64) (0 : Int64) (0 : Int64)))])) (g' := (mkF m 280 #[.val (.long q0), .second, .val (.long q1), .second, .val (.long q2), .second, .val (.long q3), .second, .val (.int p4), .val (.int v2), .val (.ref b250), .val (.long (-9223372036854775808 : Int64)), .second, .val (.long (-9223372036854775808 : Int64)), .second, .val (.long (0 : Int64)), .second, .val (.long v41), .second, .val (.long v43), .second, .val (.long v45), .second, .val (.ref b273), .val (.int v46), .val (.ref b273), .val (.int v59), .val (.int v63)] [(.int v67)])) X345 (by
                  by_cases hc272_66 : (own_r3j (-9223372036854775808 : Int64) (-9223372036854775808 : Int64) (-9223372036854775808 : Int64) (-9223372036854775808 : Int64) (0 : Int64) (0 : Int64)) = (0 : Int32)
                  · have hgo346 : ∀ t, Steps p.tables e below (T345.setTop (mkF m 280 #[.val (.long q0), .second, .val (.long q1), .second, .val (.long q2), .second, .val (.long q3), .second, .val (.int p4), .val (.int v2), .val (.ref b250), .val (.long (-9223372036854775808 : Int64)), .second, .val (.long (-9223372036854775808 : Int64)), .second, .val (.long (0 : Int64)), .second, .val (.long v41), .second, .val (.long v43), .second, .val (.long v45), .second, .val (.ref b273), .val (.int v46), .val (.ref b273), .val (.int v59), .val (.int v63)] [(.int (0 : Int32))])) t → Steps p.tables e below (T345.setTop (mkF m 272 #[.val (.long q0), .second, .val (.long q1), .second, .val (.long q2), .second, .val (.long q3), .second, .val (.int p4), .val (.int v2), .val (.ref b250), .val (.long (-9223372036854775808 : Int64)), .second, .val (.long (-9223372036854775808 : Int64)), .second, .val (.long (0 : Int64)), .second, .val (.long v41), .second, .val (.long v43), .second, .val (.long v45), .second, .val (.ref b273), .val (.int v46), .val (.ref b273), .val (.int v59), .val (.int v63)] [(.int (own_r3j (-9223372036854775808 : Int64) (-9223372036854775808 : Int64) (-9223372036854775808 : Int64) (-9223372036854775808 : Int64) (0 : Int64) (0 : Int64)))])) t := by
                      intro t kt
                      show Steps p.tables e below (T345.setTop (mkF m 272 #[.val (.long q0), .second, .val (.long q1), .second, .val (.long q2), .second, .val (.long q3), .second, .val (.int p4), .val (.int v2), .val (.ref b250), .val (.long (-9223372036854775808 : Int64)), .second, .val (.long (-9223372036854775808 : Int64)), .second, .val (.long (0 : Int64)), .second, .val (.long v41), .second, .val (.long v43), .second, .val (.long v45), .second, .val (.ref b273), .val (.int v46), .val (.ref b273), .val (.int v59), .val (.int v63)] [(.int (own_r3j (-9223372036854775808 : Int64) (-9223372036854775808 : Int64) (-9223372036854775808 : Int64) (-9223372036854775808 : Int64) (0 : Int64) (0 : Int64)))])) _
                      refine XS.ifYes X345.here hx rfl (pc0 := 272) (pc' := 279) rfl (hb hby at_272) rfl ((if0 _ _).trans (teq hc272_66).1) (by decide) (by decide) ?_
                      show Steps p.tables e below (T345.setTop (mkF m 279 #[.val (.long q0), .second, .val (.long q1), .second, .val (.long q2), .second, .val (.long q3), .second, .val (.int p4), .val (.int v2), .val (.ref b250), .val (.long (-9223372036854775808 : Int64)), .second, .val (.long (-9223372036854775808 : Int64)), .second, .val (.long (0 : Int64)), .second, .val (.long v41), .second, .val (.long v43), .second, .val (.long v45), .second, .val (.ref b273), .val (.int v46), .val (.ref b273), .val (.int v59), .val (.int v63)] [])) _
                      refine XS.iconst X345.here hx rfl (hb hby at_279) ?_
                      exact kt
                    refine own_arm hgo346 ?_
                    exact own_armEnd X345 N345 e345 (by rw [hv67.trans (if_pos hc272_66)])
                  · have hgo347 : ∀ t, Steps p.tables e below (T345.setTop (mkF m 280 #[.val (.long q0), .second, .val (.long q1), .second, .val (.long q2), .second, .val (.long q3), .second, .val (.int p4), .val (.int v2), .val (.ref b250), .val (.long (-9223372036854775808 : Int64)), .second, .val (.long (-9223372036854775808 : Int64)), .second, .val (.long (0 : Int64)), .second, .val (.long v41), .second, .val (.long v43), .second, .val (.long v45), .second, .val (.ref b273), .val (.int v46), .val (.ref b273), .val (.int v59), .val (.int v63)] [(.int (1 : Int32))])) t → Steps p.tables e below (T345.setTop (mkF m 272 #[.val (.long q0), .second, .val (.long q1), .second, .val (.long q2), .second, .val (.long q3), .second, .val (.int p4), .val (.int v2), .val (.ref b250), .val (.long (-9223372036854775808 : Int64)), .second, .val (.long (-9223372036854775808 : Int64)), .second, .val (.long (0 : Int64)), .second, .val (.long v41), .second, .val (.long v43), .second, .val (.long v45), .second, .val (.ref b273), .val (.int v46), .val (.ref b273), .val (.int v59), .val (.int v63)] [(.int (own_r3j (-9223372036854775808 : Int64) (-9223372036854775808 : Int64) (-9223372036854775808 : Int64) (-9223372036854775808 : Int64) (0 : Int64) (0 : Int64)))])) t := by
                      intro t kt
                      show Steps p.tables e below (T345.setTop (mkF m 272 #[.val (.long q0), .second, .val (.long q1), .second, .val (.long q2), .second, .val (.long q3), .second, .val (.int p4), .val (.int v2), .val (.ref b250), .val (.long (-9223372036854775808 : Int64)), .second, .val (.long (-9223372036854775808 : Int64)), .second, .val (.long (0 : Int64)), .second, .val (.long v41), .second, .val (.long v43), .second, .val (.long v45), .second, .val (.ref b273), .val (.int v46), .val (.ref b273), .val (.int v59), .val (.int v63)] [(.int (own_r3j (-9223372036854775808 : Int64) (-9223372036854775808 : Int64) (-9223372036854775808 : Int64) (-9223372036854775808 : Int64) (0 : Int64) (0 : Int64)))])) _
                      refine XS.ifNo X345.here hx rfl (hb hby at_272) rfl ((if0 _ _).trans (feq hc272_66).1) ?_
                      show Steps p.tables e below (T345.setTop (mkF m 275 #[.val (.long q0), .second, .val (.long q1), .second, .val (.long q2), .second, .val (.long q3), .second, .val (.int p4), .val (.int v2), .val (.ref b250), .val (.long (-9223372036854775808 : Int64)), .second, .val (.long (-9223372036854775808 : Int64)), .second, .val (.long (0 : Int64)), .second, .val (.long v41), .second, .val (.long v43), .second, .val (.long v45), .second, .val (.ref b273), .val (.int v46), .val (.ref b273), .val (.int v59), .val (.int v63)] [])) _
                      refine XS.iconst X345.here hx rfl (hb hby at_275) ?_
                      show Steps p.tables e below (T345.setTop (mkF m 276 #[.val (.long q0), .second, .val (.long q1), .second, .val (.long q2), .second, .val (.long q3), .second, .val (.int p4), .val (.int v2), .val (.ref b250), .val (.long (-9223372036854775808 : Int64)), .second, .val (.long (-9223372036854775808 : Int64)), .second, .val (.long (0 : Int64)), .second, .val (.long v41), .second, .val (.long v43), .second, .val (.long v45), .second, .val (.ref b273), .val (.int v46), .val (.ref b273), .val (.int v59), .val (.int v63)] [(.int (1 : Int32))])) _
                      refine XS.goto X345.here hx rfl (pc0 := 276) (pc' := 280) rfl (hb hby at_276) (by decide) (by decide) ?_
                      exact kt
                    refine own_arm hgo347 ?_
                    exact own_armEnd X345 N345 e345 (by rw [hv67.trans (if_neg hc272_66)]))
                have hgo349 : ∀ t, Steps p.tables e below (T348.setTop (mkF m 280 #[.val (.long q0), .second, .val (.long q1), .second, .val (.long q2), .second, .val (.long q3), .second, .val (.int p4), .val (.int v2), .val (.ref b250), .val (.long (-9223372036854775808 : Int64)), .second, .val (.long (-9223372036854775808 : Int64)), .second, .val (.long (0 : Int64)), .second, .val (.long v41), .second, .val (.long v43), .second, .val (.long v45), .second, .val (.ref b273), .val (.int v46), .val (.ref b273), .val (.int v59), .val (.int v63)] [(.int v67)])) t → Steps p.tables e below (T343.setTop (mkF m 262 #[.val (.long q0), .second, .val (.long q1), .second, .val (.long q2), .second, .val (.long q3), .second, .val (.int p4), .val (.int v2), .val (.ref b250), .val (.long (-9223372036854775808 : Int64)), .second, .val (.long (-9223372036854775808 : Int64)), .second, .val (.long (0 : Int64)), .second, .val (.long v41), .second, .val (.long v43), .second, .val (.long v45), .second, .val (.ref b273), .val (.int v46), .val (.ref b273), .val (.int v59), .val (.int v63)] [(.int v63)])) t := by
                  intro t kt
                  show Steps p.tables e below (T343.setTop (mkF m 262 #[.val (.long q0), .second, .val (.long q1), .second, .val (.long q2), .second, .val (.long q3), .second, .val (.int p4), .val (.int v2), .val (.ref b250), .val (.long (-9223372036854775808 : Int64)), .second, .val (.long (-9223372036854775808 : Int64)), .second, .val (.long (0 : Int64)), .second, .val (.long v41), .second, .val (.long v43), .second, .val (.long v45), .second, .val (.ref b273), .val (.int v46), .val (.ref b273), .val (.int v59), .val (.int v63)] [(.int v63)])) _
                  refine XS.ifNo X343.here hx rfl (hb hby at_262) rfl ((if0 _ _).trans (feq hc262_65).1) ?_
                  show Steps p.tables e below (T343.setTop (mkF m 265 #[.val (.long q0), .second, .val (.long q1), .second, .val (.long q2), .second, .val (.long q3), .second, .val (.int p4), .val (.int v2), .val (.ref b250), .val (.long (-9223372036854775808 : Int64)), .second, .val (.long (-9223372036854775808 : Int64)), .second, .val (.long (0 : Int64)), .second, .val (.long v41), .second, .val (.long v43), .second, .val (.long v45), .second, .val (.ref b273), .val (.int v46), .val (.ref b273), .val (.int v59), .val (.int v63)] [])) _
                  refine XS.aload X343.here hx rfl (hb hby at_265) rfl rfl ?_
                  show Steps p.tables e below (T343.setTop (mkF m 267 #[.val (.long q0), .second, .val (.long q1), .second, .val (.long q2), .second, .val (.long q3), .second, .val (.int p4), .val (.int v2), .val (.ref b250), .val (.long (-9223372036854775808 : Int64)), .second, .val (.long (-9223372036854775808 : Int64)), .second, .val (.long (0 : Int64)), .second, .val (.long v41), .second, .val (.long v43), .second, .val (.long v45), .second, .val (.ref b273), .val (.int v46), .val (.ref b273), .val (.int v59), .val (.int v63)] [(.ref b250)])) _
                  refine XS.aload X343.here hx rfl (hb hby at_267) rfl rfl ?_
                  show Steps p.tables e below (T343.setTop (mkF m 269 #[.val (.long q0), .second, .val (.long q1), .second, .val (.long q2), .second, .val (.long q3), .second, .val (.int p4), .val (.int v2), .val (.ref b250), .val (.long (-9223372036854775808 : Int64)), .second, .val (.long (-9223372036854775808 : Int64)), .second, .val (.long (0 : Int64)), .second, .val (.long v41), .second, .val (.long v43), .second, .val (.long v45), .second, .val (.ref b273), .val (.int v46), .val (.ref b273), .val (.int v59), .val (.int v63)] [(.ref b250), (.ref b250)])) _
                  refine st345.trans ?_
                  show Steps p.tables e below (T345.setTop (mkF m 272 #[.val (.long q0), .second, .val (.long q1), .second, .val (.long q2), .second, .val (.long q3), .second, .val (.int p4), .val (.int v2), .val (.ref b250), .val (.long (-9223372036854775808 : Int64)), .second, .val (.long (-9223372036854775808 : Int64)), .second, .val (.long (0 : Int64)), .second, .val (.long v41), .second, .val (.long v43), .second, .val (.long v45), .second, .val (.ref b273), .val (.int v46), .val (.ref b273), .val (.int v59), .val (.int v63)] [(.int (own_r3j (-9223372036854775808 : Int64) (-9223372036854775808 : Int64) (-9223372036854775808 : Int64) (-9223372036854775808 : Int64) (0 : Int64) (0 : Int64)))])) _
                  refine st348 _ ?_
                  exact kt
                refine own_arm hgo349 ?_
                exact own_armEnd X348 N348 e348 (by rw [hv68.trans (if_neg hc262_65)]))
            have hgo351 : ∀ t, Steps p.tables e below (T350.setTop (mkF m 280 #[.val (.long q0), .second, .val (.long q1), .second, .val (.long q2), .second, .val (.long q3), .second, .val (.int p4), .val (.int v2), .val (.ref b250), .val (.long (-9223372036854775808 : Int64)), .second, .val (.long (-9223372036854775808 : Int64)), .second, .val (.long (0 : Int64)), .second, .val (.long v41), .second, .val (.long v43), .second, .val (.long v45), .second, .val (.ref b273), .val (.int v46), .val (.ref b273), .val (.int v59), .val (.int v63)] [(.int v68)])) t → Steps p.tables e below (T343.setTop (mkF m 257 #[.val (.long q0), .second, .val (.long q1), .second, .val (.long q2), .second, .val (.long q3), .second, .val (.int p4), .val (.int v2), .val (.ref b250), .val (.long (-9223372036854775808 : Int64)), .second, .val (.long (-9223372036854775808 : Int64)), .second, .val (.long (0 : Int64)), .second, .val (.long v41), .second, .val (.long v43), .second, .val (.long v45), .second, .val (.ref b273), .val (.int v46), .val (.ref b273), .val (.int v59), .val (.int v63)] [(.int v59), (.int (own_r3j v41 (-9223372036854775808 : Int64) v43 (-9223372036854775808 : Int64) v45 (0 : Int64)))])) t := by
              intro t kt
              show Steps p.tables e below (T343.setTop (mkF m 257 #[.val (.long q0), .second, .val (.long q1), .second, .val (.long q2), .second, .val (.long q3), .second, .val (.int p4), .val (.int v2), .val (.ref b250), .val (.long (-9223372036854775808 : Int64)), .second, .val (.long (-9223372036854775808 : Int64)), .second, .val (.long (0 : Int64)), .second, .val (.long v41), .second, .val (.long v43), .second, .val (.long v45), .second, .val (.ref b273), .val (.int v46), .val (.ref b273), .val (.int v59), .val (.int v63)] [(.int v59), (.int (own_r3j v41 (-9223372036854775808 : Int64) v43 (-9223372036854775808 : Int64) v45 (0 : Int64)))])) _
              refine XS.icmpNo X343.here hx rfl (hb hby at_257) rfl (teq hc257_64).2 ?_
              show Steps p.tables e below (T343.setTop (mkF m 260 #[.val (.long q0), .second, .val (.long q1), .second, .val (.long q2), .second, .val (.long q3), .second, .val (.int p4), .val (.int v2), .val (.ref b250), .val (.long (-9223372036854775808 : Int64)), .second, .val (.long (-9223372036854775808 : Int64)), .second, .val (.long (0 : Int64)), .second, .val (.long v41), .second, .val (.long v43), .second, .val (.long v45), .second, .val (.ref b273), .val (.int v46), .val (.ref b273), .val (.int v59), .val (.int v63)] [])) _
              refine XS.iload X343.here hx rfl (hb hby at_260) rfl ?_
              show Steps p.tables e below (T343.setTop (mkF m 262 #[.val (.long q0), .second, .val (.long q1), .second, .val (.long q2), .second, .val (.long q3), .second, .val (.int p4), .val (.int v2), .val (.ref b250), .val (.long (-9223372036854775808 : Int64)), .second, .val (.long (-9223372036854775808 : Int64)), .second, .val (.long (0 : Int64)), .second, .val (.long v41), .second, .val (.long v43), .second, .val (.long v45), .second, .val (.ref b273), .val (.int v46), .val (.ref b273), .val (.int v59), .val (.int v63)] [(.int v63)])) _
              refine st350 _ ?_
              exact kt
            refine own_arm hgo351 ?_
            exact own_armEnd X350 N350 e350 (by rw [hv69.trans (if_pos hc257_64)])
          · have hgo352 : ∀ t, Steps p.tables e below (T343.setTop (mkF m 280 #[.val (.long q0), .second, .val (.long q1), .second, .val (.long q2), .second, .val (.long q3), .second, .val (.int p4), .val (.int v2), .val (.ref b250), .val (.long (-9223372036854775808 : Int64)), .second, .val (.long (-9223372036854775808 : Int64)), .second, .val (.long (0 : Int64)), .second, .val (.long v41), .second, .val (.long v43), .second, .val (.long v45), .second, .val (.ref b273), .val (.int v46), .val (.ref b273), .val (.int v59), .val (.int v63)] [(.int (0 : Int32))])) t → Steps p.tables e below (T343.setTop (mkF m 257 #[.val (.long q0), .second, .val (.long q1), .second, .val (.long q2), .second, .val (.long q3), .second, .val (.int p4), .val (.int v2), .val (.ref b250), .val (.long (-9223372036854775808 : Int64)), .second, .val (.long (-9223372036854775808 : Int64)), .second, .val (.long (0 : Int64)), .second, .val (.long v41), .second, .val (.long v43), .second, .val (.long v45), .second, .val (.ref b273), .val (.int v46), .val (.ref b273), .val (.int v59), .val (.int v63)] [(.int v59), (.int (own_r3j v41 (-9223372036854775808 : Int64) v43 (-9223372036854775808 : Int64) v45 (0 : Int64)))])) t := by
              intro t kt
              show Steps p.tables e below (T343.setTop (mkF m 257 #[.val (.long q0), .second, .val (.long q1), .second, .val (.long q2), .second, .val (.long q3), .second, .val (.int p4), .val (.int v2), .val (.ref b250), .val (.long (-9223372036854775808 : Int64)), .second, .val (.long (-9223372036854775808 : Int64)), .second, .val (.long (0 : Int64)), .second, .val (.long v41), .second, .val (.long v43), .second, .val (.long v45), .second, .val (.ref b273), .val (.int v46), .val (.ref b273), .val (.int v59), .val (.int v63)] [(.int v59), (.int (own_r3j v41 (-9223372036854775808 : Int64) v43 (-9223372036854775808 : Int64) v45 (0 : Int64)))])) _
              refine XS.icmpYes X343.here hx rfl (pc0 := 257) (pc' := 279) rfl (hb hby at_257) rfl (feq hc257_64).2 (by decide) (by decide) ?_
              show Steps p.tables e below (T343.setTop (mkF m 279 #[.val (.long q0), .second, .val (.long q1), .second, .val (.long q2), .second, .val (.long q3), .second, .val (.int p4), .val (.int v2), .val (.ref b250), .val (.long (-9223372036854775808 : Int64)), .second, .val (.long (-9223372036854775808 : Int64)), .second, .val (.long (0 : Int64)), .second, .val (.long v41), .second, .val (.long v43), .second, .val (.long v45), .second, .val (.ref b273), .val (.int v46), .val (.ref b273), .val (.int v59), .val (.int v63)] [])) _
              refine XS.iconst X343.here hx rfl (hb hby at_279) ?_
              exact kt
            refine own_arm hgo352 ?_
            exact own_armEnd X343 N343 e343 (by rw [hv69.trans (if_neg hc257_64)]))
        have hgo354 : ∀ t, Steps p.tables e below (T353.setTop (mkF m 280 #[.val (.long q0), .second, .val (.long q1), .second, .val (.long q2), .second, .val (.long q3), .second, .val (.int p4), .val (.int v2), .val (.ref b250), .val (.long (-9223372036854775808 : Int64)), .second, .val (.long (-9223372036854775808 : Int64)), .second, .val (.long (0 : Int64)), .second, .val (.long v41), .second, .val (.long v43), .second, .val (.long v45), .second, .val (.ref b273), .val (.int v46), .val (.ref b273), .val (.int v59), .val (.int v63)] [(.int v69)])) t → Steps p.tables e below (T285.setTop (mkF m 172 #[.val (.long q0), .second, .val (.long q1), .second, .val (.long q2), .second, .val (.long q3), .second, .val (.int p4), .val (.int v2), .val (.ref b250), .val (.long (-9223372036854775808 : Int64)), .second, .val (.long (-9223372036854775808 : Int64)), .second, .val (.long (0 : Int64)), .second, .val (.long v41), .second, .val (.long v43), .second, .val (.long v45), .second, .val (.ref b273), .val (.int v46), .unset, .unset, .unset] [(.int (1 : Int32)), (.int v46)])) t := by
          intro t kt
          show Steps p.tables e below (T285.setTop (mkF m 172 #[.val (.long q0), .second, .val (.long q1), .second, .val (.long q2), .second, .val (.long q3), .second, .val (.int p4), .val (.int v2), .val (.ref b250), .val (.long (-9223372036854775808 : Int64)), .second, .val (.long (-9223372036854775808 : Int64)), .second, .val (.long (0 : Int64)), .second, .val (.long v41), .second, .val (.long v43), .second, .val (.long v45), .second, .val (.ref b273), .val (.int v46), .unset, .unset, .unset] [(.int (1 : Int32)), (.int v46)])) _
          refine XS.icmpYes X285.here hx rfl (pc0 := 172) (pc' := 188) rfl (hb hby at_172) rfl (feq hc172_51).2 (by decide) (by decide) ?_
          show Steps p.tables e below (T285.setTop (mkF m 188 #[.val (.long q0), .second, .val (.long q1), .second, .val (.long q2), .second, .val (.long q3), .second, .val (.int p4), .val (.int v2), .val (.ref b250), .val (.long (-9223372036854775808 : Int64)), .second, .val (.long (-9223372036854775808 : Int64)), .second, .val (.long (0 : Int64)), .second, .val (.long v41), .second, .val (.long v43), .second, .val (.long v45), .second, .val (.ref b273), .val (.int v46), .unset, .unset, .unset] [])) _
          refine XS.aload X285.here hx rfl (hb hby at_188) rfl rfl ?_
          show Steps p.tables e below (T285.setTop (mkF m 190 #[.val (.long q0), .second, .val (.long q1), .second, .val (.long q2), .second, .val (.long q3), .second, .val (.int p4), .val (.int v2), .val (.ref b250), .val (.long (-9223372036854775808 : Int64)), .second, .val (.long (-9223372036854775808 : Int64)), .second, .val (.long (0 : Int64)), .second, .val (.long v41), .second, .val (.long v43), .second, .val (.long v45), .second, .val (.ref b273), .val (.int v46), .unset, .unset, .unset] [(.ref b273)])) _
          refine XS.astore X285.here hx rfl (hb hby at_190) rfl rfl (l' := #[.val (.long q0), .second, .val (.long q1), .second, .val (.long q2), .second, .val (.long q3), .second, .val (.int p4), .val (.int v2), .val (.ref b250), .val (.long (-9223372036854775808 : Int64)), .second, .val (.long (-9223372036854775808 : Int64)), .second, .val (.long (0 : Int64)), .second, .val (.long v41), .second, .val (.long v43), .second, .val (.long v45), .second, .val (.ref b273), .val (.int v46), .val (.ref b273), .unset, .unset]) rfl ?_
          show Steps p.tables e below (T285.setTop (mkF m 192 #[.val (.long q0), .second, .val (.long q1), .second, .val (.long q2), .second, .val (.long q3), .second, .val (.int p4), .val (.int v2), .val (.ref b250), .val (.long (-9223372036854775808 : Int64)), .second, .val (.long (-9223372036854775808 : Int64)), .second, .val (.long (0 : Int64)), .second, .val (.long v41), .second, .val (.long v43), .second, .val (.long v45), .second, .val (.ref b273), .val (.int v46), .val (.ref b273), .unset, .unset] [])) _
          refine XS.lload X285.here hx rfl (hb hby at_192) rfl ?_
          show Steps p.tables e below (T285.setTop (mkF m 194 #[.val (.long q0), .second, .val (.long q1), .second, .val (.long q2), .second, .val (.long q3), .second, .val (.int p4), .val (.int v2), .val (.ref b250), .val (.long (-9223372036854775808 : Int64)), .second, .val (.long (-9223372036854775808 : Int64)), .second, .val (.long (0 : Int64)), .second, .val (.long v41), .second, .val (.long v43), .second, .val (.long v45), .second, .val (.ref b273), .val (.int v46), .val (.ref b273), .unset, .unset] [(.long v41)])) _
          refine XS.lload X285.here hx rfl (hb hby at_194) rfl ?_
          show Steps p.tables e below (T285.setTop (mkF m 196 #[.val (.long q0), .second, .val (.long q1), .second, .val (.long q2), .second, .val (.long q3), .second, .val (.int p4), .val (.int v2), .val (.ref b250), .val (.long (-9223372036854775808 : Int64)), .second, .val (.long (-9223372036854775808 : Int64)), .second, .val (.long (0 : Int64)), .second, .val (.long v41), .second, .val (.long v43), .second, .val (.long v45), .second, .val (.ref b273), .val (.int v46), .val (.ref b273), .unset, .unset] [(.long (-9223372036854775808 : Int64)), (.long v41)])) _
          refine XS.lcmp X285.here hx rfl (hb hby at_196) rfl ?_
          show Steps p.tables e below (T285.setTop (mkF m 197 #[.val (.long q0), .second, .val (.long q1), .second, .val (.long q2), .second, .val (.long q3), .second, .val (.int p4), .val (.int v2), .val (.ref b250), .val (.long (-9223372036854775808 : Int64)), .second, .val (.long (-9223372036854775808 : Int64)), .second, .val (.long (0 : Int64)), .second, .val (.long v41), .second, .val (.long v43), .second, .val (.long v45), .second, .val (.ref b273), .val (.int v46), .val (.ref b273), .unset, .unset] [(.int (lcmpW v41 (-9223372036854775808 : Int64)))])) _
          refine st335 _ ?_
          show Steps p.tables e below (T335.setTop (mkF m 221 #[.val (.long q0), .second, .val (.long q1), .second, .val (.long q2), .second, .val (.long q3), .second, .val (.int p4), .val (.int v2), .val (.ref b250), .val (.long (-9223372036854775808 : Int64)), .second, .val (.long (-9223372036854775808 : Int64)), .second, .val (.long (0 : Int64)), .second, .val (.long v41), .second, .val (.long v43), .second, .val (.long v45), .second, .val (.ref b273), .val (.int v46), .val (.ref b273), .unset, .unset] [(.int v59)])) _
          refine XS.istore X335.here hx rfl (hb hby at_221) rfl (l' := #[.val (.long q0), .second, .val (.long q1), .second, .val (.long q2), .second, .val (.long q3), .second, .val (.int p4), .val (.int v2), .val (.ref b250), .val (.long (-9223372036854775808 : Int64)), .second, .val (.long (-9223372036854775808 : Int64)), .second, .val (.long (0 : Int64)), .second, .val (.long v41), .second, .val (.long v43), .second, .val (.long v45), .second, .val (.ref b273), .val (.int v46), .val (.ref b273), .val (.int v59), .unset]) rfl ?_
          show Steps p.tables e below (T335.setTop (mkF m 223 #[.val (.long q0), .second, .val (.long q1), .second, .val (.long q2), .second, .val (.long q3), .second, .val (.int p4), .val (.int v2), .val (.ref b250), .val (.long (-9223372036854775808 : Int64)), .second, .val (.long (-9223372036854775808 : Int64)), .second, .val (.long (0 : Int64)), .second, .val (.long v41), .second, .val (.long v43), .second, .val (.long v45), .second, .val (.ref b273), .val (.int v46), .val (.ref b273), .val (.int v59), .unset] [])) _
          refine XS.iload X335.here hx rfl (hb hby at_223) rfl ?_
          show Steps p.tables e below (T335.setTop (mkF m 225 #[.val (.long q0), .second, .val (.long q1), .second, .val (.long q2), .second, .val (.long q3), .second, .val (.int p4), .val (.int v2), .val (.ref b250), .val (.long (-9223372036854775808 : Int64)), .second, .val (.long (-9223372036854775808 : Int64)), .second, .val (.long (0 : Int64)), .second, .val (.long v41), .second, .val (.long v43), .second, .val (.long v45), .second, .val (.ref b273), .val (.int v46), .val (.ref b273), .val (.int v59), .unset] [(.int v46)])) _
          refine XS.iconst X335.here hx rfl (hb hby at_225) ?_
          show Steps p.tables e below (T335.setTop (mkF m 226 #[.val (.long q0), .second, .val (.long q1), .second, .val (.long q2), .second, .val (.long q3), .second, .val (.int p4), .val (.int v2), .val (.ref b250), .val (.long (-9223372036854775808 : Int64)), .second, .val (.long (-9223372036854775808 : Int64)), .second, .val (.long (0 : Int64)), .second, .val (.long v41), .second, .val (.long v43), .second, .val (.long v45), .second, .val (.ref b273), .val (.int v46), .val (.ref b273), .val (.int v59), .unset] [(.int (2 : Int32)), (.int v46)])) _
          refine st342 _ ?_
          show Steps p.tables e below (T342.setTop (mkF m 246 #[.val (.long q0), .second, .val (.long q1), .second, .val (.long q2), .second, .val (.long q3), .second, .val (.int p4), .val (.int v2), .val (.ref b250), .val (.long (-9223372036854775808 : Int64)), .second, .val (.long (-9223372036854775808 : Int64)), .second, .val (.long (0 : Int64)), .second, .val (.long v41), .second, .val (.long v43), .second, .val (.long v45), .second, .val (.ref b273), .val (.int v46), .val (.ref b273), .val (.int v59), .unset] [(.int v63)])) _
          refine XS.istore X342.here hx rfl (hb hby at_246) rfl (l' := #[.val (.long q0), .second, .val (.long q1), .second, .val (.long q2), .second, .val (.long q3), .second, .val (.int p4), .val (.int v2), .val (.ref b250), .val (.long (-9223372036854775808 : Int64)), .second, .val (.long (-9223372036854775808 : Int64)), .second, .val (.long (0 : Int64)), .second, .val (.long v41), .second, .val (.long v43), .second, .val (.long v45), .second, .val (.ref b273), .val (.int v46), .val (.ref b273), .val (.int v59), .val (.int v63)]) rfl ?_
          show Steps p.tables e below (T342.setTop (mkF m 248 #[.val (.long q0), .second, .val (.long q1), .second, .val (.long q2), .second, .val (.long q3), .second, .val (.int p4), .val (.int v2), .val (.ref b250), .val (.long (-9223372036854775808 : Int64)), .second, .val (.long (-9223372036854775808 : Int64)), .second, .val (.long (0 : Int64)), .second, .val (.long v41), .second, .val (.long v43), .second, .val (.long v45), .second, .val (.ref b273), .val (.int v46), .val (.ref b273), .val (.int v59), .val (.int v63)] [])) _
          refine XS.aload X342.here hx rfl (hb hby at_248) rfl rfl ?_
          show Steps p.tables e below (T342.setTop (mkF m 250 #[.val (.long q0), .second, .val (.long q1), .second, .val (.long q2), .second, .val (.long q3), .second, .val (.int p4), .val (.int v2), .val (.ref b250), .val (.long (-9223372036854775808 : Int64)), .second, .val (.long (-9223372036854775808 : Int64)), .second, .val (.long (0 : Int64)), .second, .val (.long v41), .second, .val (.long v43), .second, .val (.long v45), .second, .val (.ref b273), .val (.int v46), .val (.ref b273), .val (.int v59), .val (.int v63)] [(.ref b250)])) _
          refine XS.aload X342.here hx rfl (hb hby at_250) rfl rfl ?_
          show Steps p.tables e below (T342.setTop (mkF m 252 #[.val (.long q0), .second, .val (.long q1), .second, .val (.long q2), .second, .val (.long q3), .second, .val (.int p4), .val (.int v2), .val (.ref b250), .val (.long (-9223372036854775808 : Int64)), .second, .val (.long (-9223372036854775808 : Int64)), .second, .val (.long (0 : Int64)), .second, .val (.long v41), .second, .val (.long v43), .second, .val (.long v45), .second, .val (.ref b273), .val (.int v46), .val (.ref b273), .val (.int v59), .val (.int v63)] [(.ref b273), (.ref b250)])) _
          refine st343.trans ?_
          show Steps p.tables e below (T343.setTop (mkF m 255 #[.val (.long q0), .second, .val (.long q1), .second, .val (.long q2), .second, .val (.long q3), .second, .val (.int p4), .val (.int v2), .val (.ref b250), .val (.long (-9223372036854775808 : Int64)), .second, .val (.long (-9223372036854775808 : Int64)), .second, .val (.long (0 : Int64)), .second, .val (.long v41), .second, .val (.long v43), .second, .val (.long v45), .second, .val (.ref b273), .val (.int v46), .val (.ref b273), .val (.int v59), .val (.int v63)] [(.int (own_r3j v41 (-9223372036854775808 : Int64) v43 (-9223372036854775808 : Int64) v45 (0 : Int64)))])) _
          refine XS.iload X343.here hx rfl (hb hby at_255) rfl ?_
          show Steps p.tables e below (T343.setTop (mkF m 257 #[.val (.long q0), .second, .val (.long q1), .second, .val (.long q2), .second, .val (.long q3), .second, .val (.int p4), .val (.int v2), .val (.ref b250), .val (.long (-9223372036854775808 : Int64)), .second, .val (.long (-9223372036854775808 : Int64)), .second, .val (.long (0 : Int64)), .second, .val (.long v41), .second, .val (.long v43), .second, .val (.long v45), .second, .val (.ref b273), .val (.int v46), .val (.ref b273), .val (.int v59), .val (.int v63)] [(.int v59), (.int (own_r3j v41 (-9223372036854775808 : Int64) v43 (-9223372036854775808 : Int64) v45 (0 : Int64)))])) _
          refine st353 _ ?_
          exact kt
        refine own_go hgo354 ?_
        have hz355 : v69 = 1 := own_leaf7 (q0 := q0) (q1 := q1) (q2 := q2) (q3 := q3) (p4 := p4) (ulc := ulc) hv2 hv41 hv43 hv45 hv46 hv57 hv58 hv59 hv62 hv63 hv67 hv68 hv69 hc17_3 hc157_47 hc172_51
        exact own_retZ X353 hx Bd.returns Bd.notSynchronized (hb hby at_280) (by decide) (by decide) (Or.inr hz355) ⟨by rw [hz355], N353⟩
set_option maxRecDepth 65536 in
set_option maxHeartbeats 40000000 in
theorem comes_1 {Post : Tables → Env → Array Value → State → Outcome → State → Prop} (hpost : ∀ tb e args s v u, (limb_1_1.after args s (.returned v) u = true ∧ limb_1_2.after args s (.returned v) u = true ∧ True) → FrameEnd s (.returned v) u (Jvm.fieldLocs frame_1_writes args s ++ Jvm.arrayLocs frame_1_arrays args s ++ Jvm.staticLocs frame_1_statics s) 16 128 → Post tb e args s (.returned v) u) :
    ArmFor flags0 classFile x code maxLocals ret World_1 tables_1 room_1 Calls_1 rest_1 Pre_1 Post := by
  intro l hfl _ _ p e ha hc hk s m args below hf hA hF happ hP
  obtain ⟨hcalls, hrest, hpre⟩ := hP
  obtain ⟨-, -, -, hnamed, -, -, -, hat⟩ := (Spec.applies_iff hf).mp happ
  obtain ⟨hg, hn⟩ := and_e (Cond.before_iff.mp (show (Jvm.Cond.and given_1 narrow_1).before args s = true from hpre))
  obtain ⟨gg1, gg2⟩ := and_e hg
  obtain ⟨gg3, gg4⟩ := and_e gg2
  obtain ⟨gg5, gg6⟩ := and_e gg4
  obtain ⟨gg7, gg8⟩ := and_e gg6
  obtain ⟨gg9, gg10⟩ := and_e gg8
  obtain ⟨w0, w1, w2, w3, w4, rfl⟩ : ∃ w0 w1 w2 w3 w4 : Value, args = #[w0, w1, w2, w3, w4] := by
    have hs : args.size = 5 := by simpa [Cond.value, given_1] using gg1
    obtain ⟨L⟩ := args
    match L, hs with
    | [w0, w1, w2, w3, w4], _ => exact ⟨w0, w1, w2, w3, w4, rfl⟩
  have hw := fun d (hd : d ∈ tables_1) => atoms_spec (ws := Jvm.Cond.code x code maxLocals ret :: tables_1) hat d (List.mem_cons_of_mem _ hd)
  have hfit : Fit s := fun {y c} hc i hi => by
    obtain ⟨ha, rfl⟩ := Array.getElem?_eq_some_iff.mp hc
    have q := List.all_eq_true.mp ((Array.all_eq_true_iff_forall_mem.mp hF) _ (Array.getElem_mem ha)) i (List.mem_range.mpr hi)
    simpa [Array.getElem?_eq_getElem hi] using q
  obtain ⟨hsets, hown0⟩ := atoms_of _ (rest_1_c_eq ▸ (show rest_1_c.before _ s = true from hrest))
  have hr0 := Cond.before_iff.mp hown0
  obtain ⟨i0, ei0⟩ := isL_v gg3
  obtain rfl : w0 = (.long i0) := Option.some.inj ei0
  obtain ⟨i1, ei1⟩ := isL_v gg5
  obtain rfl : w1 = (.long i1) := Option.some.inj ei1
  obtain ⟨i2, ei2⟩ := isL_v gg7
  obtain rfl : w2 = (.long i2) := Option.some.inj ei2
  obtain ⟨i3, ei3⟩ := isL_v gg9
  obtain rfl : w3 = (.long i3) := Option.some.inj ei3
  obtain ⟨i4, ei4⟩ := is_v gg10
  obtain rfl : w4 = (.int i4) := Option.some.inj ei4
  obtain ⟨ulc, eulc⟩ := arr_v (Cond.before_iff.mp (hsets _ (List.mem_of_getElem? (i := 2) rfl)))
  obtain ⟨n, o, h1, h2, h3, _, L, rfl, ⟨rfl, N⟩, hq⟩ := rm0 l s _ hw tables_1 i0 i1 i2 i3 i4 ulc s.heap s.heap.size (Nat.le_refl _) (Sta.start eulc (Or.inl (hsets _ (List.mem_of_getElem? (i := 1) rfl)))) (own_LC.start (fun _ => eulc) (Cond.before_iff.mp (hsets _ (List.mem_of_getElem? (i := 2) rfl))) (Cond.before_iff.mp (hsets _ (List.mem_of_getElem? (i := 4) rfl))) (Cond.before_iff.mp (hsets _ (List.mem_of_getElem? (i := 5) rfl)))) p e ha hc hk s m _ below hf ((Spec.applies_iff_loose hf).mp happ).1 ⟨rfl, State.Warmed39.refl s, rfl⟩ trivial
  refine ⟨n, _, h1, h2, h3, hpost _ _ _ _ _ _ ⟨Cond.after_iff.mpr rfl, Cond.after_iff.mpr (eq_i res_at (Term.int_eval (1)) rfl), trivial⟩ ⟨hq.1, hq.2.1, (hq.2.2.sift fun y hy => Or.inr (N y hy)).mono (by decide) (by decide)⟩⟩
theorem main_1_1 : Claimed_1_1 := comes_1 fun _ _ _ _ _ _ h hF => ⟨h.1, hF⟩
theorem main_1_2 : Claimed_1_2 := comes_1 fun _ _ _ _ _ _ h hF => ⟨h.2.1, hF⟩
end Jvm.Pilot.@@N@@
namespace Jvm.Pilot.@@N@@
open Jvm Jvm.ClassFile Sem Op Lib Jvm.Free Jvm.Stand Jvm.Pilot.@@N@@.Jvm.D
/-! MADE BY PROGRAM (witnessworld.py) out of the Statement's table words and the real class files: 16 classes; the members and pool entries that the words name. The judged class is class 1, her method 1. -/
namespace start1
open Jvm.ClassFile
def u (s : String) : CpInfo := .utf8 (stringToUtf16 s)
/-- a pool by its gaps: so many unusable entries, then the entry; so many at the end -/
def gap : Nat → List CpInfo → List CpInfo
  | 0, r => r
  | n + 1, r => .unusable :: gap n r
def poolList (es : List (Nat × CpInfo)) (last : Nat) : List CpInfo := es.foldr (fun e r => gap e.1 (e.2 :: r)) (gap last [])
def pool (es : List (Nat × CpInfo)) (last : Nat) : Array CpInfo := ⟨poolList es last⟩
def fileOf (pool : Array CpInfo) (this : Nat) (attrs : Array Attribute := #[]) (ms : Array MethodInfo := #[]) (fl : Nat := 33) (sup : Nat := 0) (ifs : Array Nat := #[]) (fds : Array FieldInfo := #[]) : ClassFile where
  minorVersion := 0
  majorVersion := 65
  constantPool := pool
  accessFlags := fl
  thisClass := this
  superClass := sup
  interfaces := ifs
  fields := fds
  methods := ms
  attributes := attrs
def plain (name : String) (sup : Option ClassId) : Class where
  name := name
  kind := .ordinary
  loader := none
  accessFlags := 33
  super := sup
  interfaces := #[]
  cf := none
  fields := #[]
  methods := #[]
  instanceTypes := #[]
  staticTypes := #[]
  resolved := #[]
  callSites := []
  init := .initialized
  statics := none
  mirror := none

def pool0 : Array CpInfo := pool [(5, u "<init>"), (0, u "()V"), (1, .class_ 10), (1, u "java/lang/Object")] 113

def k0c0 : Code := { maxStack := 0, maxLocals := 1, code := object_method_1_code, exceptionTable := #[], attributes := #[] }
def k0m0 : Method := { name := "<init>", desc := "()V", sig := { parameters := [], returnType := none }, accessFlags := 1, code := some k0c0 }
/-- java/lang/Object -/
def k0 : Class := { plain "java/lang/Object" none with
  accessFlags := 33
  interfaces := #[]
  cf := some (fileOf pool0 8 #[] #[{ accessFlags := 1, nameIndex := 5, descriptorIndex := 6, attributes := #[] }] 33 0 #[] #[])
  fields := #[]
  methods := #[k0m0]
  instanceTypes := #[]
  staticTypes := #[]
  resolved := Array.replicate 124 none
  statics := none }

def pool1 : Array CpInfo := pool [(2, .class_ 4), (0, .nameAndType 5 6), (0, u "java/lang/Object"), (0, u "<init>"), (0, u "()V"), (0, .class_ 8), (0, u "com/example/millrace/millrace/queue/JournalClock"), (0, .methodref 7 3), (0, .methodref 7 11), (0, .nameAndType 5 12), (0, u "(JJJ)V"), (0, .class_ 14), (0, u "java/lang/Long"), (0, .long 9223372036854775808), (1, .methodref 13 18), (0, .nameAndType 19 20), (0, u "valueOf"), (0, u "(J)Ljava/lang/Long;"), (0, .methodref 7 22), (0, .nameAndType 23 24), (0, u "equals"), (0, u "(Ljava/lang/Object;)Z"), (0, .class_ 26), (0, u "com/example/millrace/millrace/queue/JournalClockEqualsPinLaw"), (2, u "law"), (0, u "(JJJJI)Z")] 3

def k1m0 : Method := { name := "<init>", desc := "()V", sig := { parameters := [], returnType := none }, accessFlags := 2, code := none }
def k1c1 : Code := { maxStack := 8, maxLocals := 28, code := code, exceptionTable := #[], attributes := #[] }
def k1m1 : Method := { name := "law", desc := "(JJJJI)Z", sig := { parameters := [.long, .long, .long, .long, .int], returnType := some .boolean }, accessFlags := 9, code := some k1c1 }
/-- com/example/millrace/millrace/queue/JournalClockEqualsPinLaw -/
def k1 : Class := { plain "com/example/millrace/millrace/queue/JournalClockEqualsPinLaw" (some 0) with
  accessFlags := 49
  interfaces := #[]
  cf := some (fileOf pool1 25 #[] #[{ accessFlags := 2, nameIndex := 5, descriptorIndex := 6, attributes := #[] }, { accessFlags := 9, nameIndex := 29, descriptorIndex := 30, attributes := #[] }] 49 2 #[] #[])
  fields := #[]
  methods := #[k1m0, k1m1]
  instanceTypes := #[]
  staticTypes := #[]
  resolved := Array.replicate 34 none
  statics := none }

def pool2 : Array CpInfo := pool [(1, .methodref 2 3), (0, .class_ 4), (0, .nameAndType 5 6), (0, u "java/lang/Object"), (0, u "<init>"), (0, u "()V"), (2, .long 9223372036854775808), (1, .fieldref 12 13), (0, .class_ 14), (0, .nameAndType 15 16), (0, u "com/example/millrace/millrace/queue/JournalClock"), (0, u "latestMillis"), (0, u "J"), (0, .fieldref 12 18), (0, .nameAndType 19 16), (0, u "millis"), (0, .fieldref 12 21), (0, .nameAndType 22 16), (0, u "leadMillis"), (2, u "(JJJ)V"), (28, u "equals"), (0, u "(Ljava/lang/Object;)Z")] 4

def k2c0 : Code := { maxStack := 3, maxLocals := 1, code := prog_19_method_1_code, exceptionTable := #[], attributes := #[] }
def k2m0 : Method := { name := "<init>", desc := "()V", sig := { parameters := [], returnType := none }, accessFlags := 0, code := some k2c0 }
def k2c1 : Code := { maxStack := 3, maxLocals := 7, code := prog_19_method_2_code, exceptionTable := #[], attributes := #[] }
def k2m1 : Method := { name := "<init>", desc := "(JJJ)V", sig := { parameters := [.long, .long, .long], returnType := none }, accessFlags := 0, code := some k2c1 }
def k2c2 : Code := { maxStack := 4, maxLocals := 3, code := prog_19_method_10_code, exceptionTable := #[], attributes := #[] }
def k2m2 : Method := { name := "equals", desc := "(Ljava/lang/Object;)Z", sig := { parameters := [(.object "java/lang/Object")], returnType := some .boolean }, accessFlags := 1, code := some k2c2 }
/-- com/example/millrace/millrace/queue/JournalClock -/
def k2 : Class := { plain "com/example/millrace/millrace/queue/JournalClock" (some 0) with
  accessFlags := 48
  interfaces := #[]
  cf := some (fileOf pool2 12 #[] #[{ accessFlags := 0, nameIndex := 5, descriptorIndex := 6, attributes := #[] }, { accessFlags := 0, nameIndex := 5, descriptorIndex := 25, attributes := #[] }, { accessFlags := 1, nameIndex := 54, descriptorIndex := 55, attributes := #[] }] 48 2 #[] #[{ accessFlags := 2, nameIndex := 15, descriptorIndex := 16, attributes := #[] }, { accessFlags := 2, nameIndex := 19, descriptorIndex := 16, attributes := #[] }, { accessFlags := 2, nameIndex := 22, descriptorIndex := 16, attributes := #[] }])
  fields := #[{ name := "latestMillis", type := .long, accessFlags := 2, slot := 0, constantValue := 0 }, { name := "millis", type := .long, accessFlags := 2, slot := 1, constantValue := 0 }, { name := "leadMillis", type := .long, accessFlags := 2, slot := 2, constantValue := 0 }]
  methods := #[k2m0, k2m1, k2m2]
  instanceTypes := #[.long, .long, .long]
  staticTypes := #[]
  resolved := Array.replicate 60 none
  statics := none }

def pool3 : Array CpInfo := pool [(1, .class_ 2), (0, u "java/io/Serializable"), (0, .class_ 4), (0, u "java/lang/Object")] 2

/-- java/io/Serializable -/
def k3 : Class := { plain "java/io/Serializable" (some 0) with
  accessFlags := 1537
  interfaces := #[]
  cf := some (fileOf pool3 1 #[] #[] 1537 3 #[] #[])
  fields := #[]
  methods := #[]
  instanceTypes := #[]
  staticTypes := #[]
  resolved := Array.replicate 7 none
  statics := none }

def pool4 : Array CpInfo := pool [(1, .methodref 2 3), (0, .class_ 4), (0, .nameAndType 5 6), (0, u "java/lang/Object"), (0, u "<init>"), (0, u "()V"), (1, .class_ 10), (1, u "java/lang/Number"), (2, .class_ 14), (0, u "java/io/Serializable"), (0, u "serialVersionUID"), (0, u "J")] 20

def k4c0 : Code := { maxStack := 1, maxLocals := 1, code := jdk_18_method_1_code, exceptionTable := #[], attributes := #[] }
def k4m0 : Method := { name := "<init>", desc := "()V", sig := { parameters := [], returnType := none }, accessFlags := 1, code := some k4c0 }
/-- java/lang/Number -/
def k4 : Class := { plain "java/lang/Number" (some 0) with
  accessFlags := 1057
  interfaces := #[3]
  cf := some (fileOf pool4 8 #[] #[{ accessFlags := 1, nameIndex := 5, descriptorIndex := 6, attributes := #[] }] 1057 2 #[13] #[{ accessFlags := 26, nameIndex := 15, descriptorIndex := 16, attributes := #[] }])
  fields := #[{ name := "serialVersionUID", type := .long, accessFlags := 26, slot := 0, constantValue := 0 }]
  methods := #[k4m0]
  instanceTypes := #[]
  staticTypes := #[.long]
  resolved := Array.replicate 37 none
  statics := none }

def pool5 : Array CpInfo := pool [(1, .class_ 2), (0, u "java/lang/Comparable"), (0, .class_ 4), (0, u "java/lang/Object")] 7

/-- java/lang/Comparable -/
def k5 : Class := { plain "java/lang/Comparable" (some 0) with
  accessFlags := 1537
  interfaces := #[]
  cf := some (fileOf pool5 1 #[] #[] 1537 3 #[] #[])
  fields := #[]
  methods := #[]
  instanceTypes := #[]
  staticTypes := #[]
  resolved := Array.replicate 12 none
  statics := none }

def pool6 : Array CpInfo := pool [(1, .class_ 2), (0, u "java/lang/constant/Constable"), (0, .class_ 4), (0, u "java/lang/Object")] 6

/-- java/lang/constant/Constable -/
def k6 : Class := { plain "java/lang/constant/Constable" (some 0) with
  accessFlags := 1537
  interfaces := #[]
  cf := some (fileOf pool6 1 #[] #[] 1537 3 #[] #[])
  fields := #[]
  methods := #[]
  instanceTypes := #[]
  staticTypes := #[]
  resolved := Array.replicate 11 none
  statics := none }

def pool7 : Array CpInfo := pool [(1, .class_ 2), (0, u "java/lang/constant/ConstantDesc"), (0, .class_ 4), (0, u "java/lang/Object")] 32

/-- java/lang/constant/ConstantDesc -/
def k7 : Class := { plain "java/lang/constant/ConstantDesc" (some 0) with
  accessFlags := 1537
  interfaces := #[]
  cf := some (fileOf pool7 1 #[] #[] 1537 3 #[] #[])
  fields := #[]
  methods := #[]
  instanceTypes := #[]
  staticTypes := #[]
  resolved := Array.replicate 37 none
  statics := none }

def pool8 : Array CpInfo := pool [(1, .class_ 2), (0, u "java/lang/Long"), (55, .nameAndType 59 60), (0, u "<init>"), (0, u "()V"), (24, u "valueOf"), (143, u "(J)Ljava/lang/Long;"), (0, .long 18446744073709551488), (1, .long 127), (1, .fieldref 235 236), (0, .class_ 237), (0, .nameAndType 238 239), (0, u "java/lang/Long$LongCache"), (0, u "cache"), (0, u "[Ljava/lang/Long;"), (0, .methodref 1 241), (0, .nameAndType 59 242), (0, u "(J)V"), (27, .methodref 271 58), (0, .class_ 272), (0, u "java/lang/Number"), (0, .fieldref 1 274), (0, .nameAndType 275 276), (0, u "value"), (0, u "J"), (84, u "TYPE"), (0, u "Ljava/lang/Class;"), (0, .class_ 364), (0, u "java/lang/Comparable"), (0, .class_ 366), (0, u "java/lang/constant/Constable"), (0, .class_ 368), (0, u "java/lang/constant/ConstantDesc"), (0, u "MIN_VALUE"), (1, u "MAX_VALUE"), (4, u "SIZE"), (0, u "I"), (1, u "BYTES"), (1, u "serialVersionUID")] 142

def k8c0 : Code := { maxStack := 4, maxLocals := 3, code := jdk_35_method_24_code, exceptionTable := #[], attributes := #[] }
def k8m0 : Method := { name := "valueOf", desc := "(J)Ljava/lang/Long;", sig := { parameters := [.long], returnType := some (.object "java/lang/Long") }, accessFlags := 9, code := some k8c0 }
def k8c1 : Code := { maxStack := 3, maxLocals := 3, code := jdk_35_method_26_code, exceptionTable := #[], attributes := #[] }
def k8m1 : Method := { name := "<init>", desc := "(J)V", sig := { parameters := [.long], returnType := none }, accessFlags := 1, code := some k8c1 }
/-- java/lang/Long -/
def k8 : Class := { plain "java/lang/Long" (some 4) with
  accessFlags := 49
  interfaces := #[5, 6, 7]
  cf := some (fileOf pool8 1 #[.nestMembers #[235]] #[{ accessFlags := 9, nameIndex := 85, descriptorIndex := 229, attributes := #[] }, { accessFlags := 1, nameIndex := 59, descriptorIndex := 242, attributes := #[] }] 49 271 #[363, 365, 367] #[{ accessFlags := 25, nameIndex := 369, descriptorIndex := 276, attributes := #[] }, { accessFlags := 25, nameIndex := 371, descriptorIndex := 276, attributes := #[] }, { accessFlags := 25, nameIndex := 361, descriptorIndex := 362, attributes := #[] }, { accessFlags := 18, nameIndex := 275, descriptorIndex := 276, attributes := #[] }, { accessFlags := 25, nameIndex := 376, descriptorIndex := 377, attributes := #[] }, { accessFlags := 25, nameIndex := 379, descriptorIndex := 377, attributes := #[] }, { accessFlags := 26, nameIndex := 381, descriptorIndex := 276, attributes := #[] }])
  fields := #[{ name := "MIN_VALUE", type := .long, accessFlags := 25, slot := 0, constantValue := 0 }, { name := "MAX_VALUE", type := .long, accessFlags := 25, slot := 1, constantValue := 0 }, { name := "TYPE", type := (.object "java/lang/Class"), accessFlags := 25, slot := 2, constantValue := 0 }, { name := "value", type := .long, accessFlags := 18, slot := 0, constantValue := 0 }, { name := "SIZE", type := .int, accessFlags := 25, slot := 3, constantValue := 0 }, { name := "BYTES", type := .int, accessFlags := 25, slot := 4, constantValue := 0 }, { name := "serialVersionUID", type := .long, accessFlags := 26, slot := 5, constantValue := 0 }]
  methods := #[k8m0, k8m1]
  instanceTypes := #[.long]
  staticTypes := #[.long, .long, (.object "java/lang/Class"), .int, .int, .long]
  resolved := Array.replicate 524 none
  statics := none }

def pool9 : Array CpInfo := pool [(2, .class_ 4), (1, u "java/lang/Object"), (0, u "<init>"), (0, u "()V"), (0, .class_ 8), (0, u "java/lang/Long"), (7, .class_ 18), (1, u "java/lang/Long$LongCache"), (0, u "$assertionsDisabled"), (0, u "Z"), (8, u "archivedCache"), (0, u "[Ljava/lang/Long;"), (7, u "cache")] 24

def k9m0 : Method := { name := "<init>", desc := "()V", sig := { parameters := [], returnType := none }, accessFlags := 2, code := none }
/-- java/lang/Long$LongCache -/
def k9 : Class := { plain "java/lang/Long$LongCache" (some 0) with
  accessFlags := 48
  interfaces := #[]
  cf := some (fileOf pool9 16 #[.nestHost 7] #[{ accessFlags := 2, nameIndex := 5, descriptorIndex := 6, attributes := #[] }] 48 2 #[] #[{ accessFlags := 24, nameIndex := 38, descriptorIndex := 30, attributes := #[] }, { accessFlags := 8, nameIndex := 29, descriptorIndex := 30, attributes := #[] }, { accessFlags := 4120, nameIndex := 19, descriptorIndex := 20, attributes := #[] }])
  fields := #[{ name := "cache", type := (.array (.object "java/lang/Long")), accessFlags := 24, slot := 0, constantValue := 0 }, { name := "archivedCache", type := (.array (.object "java/lang/Long")), accessFlags := 8, slot := 1, constantValue := 0 }, { name := "$assertionsDisabled", type := .boolean, accessFlags := 4120, slot := 2, constantValue := 0 }]
  methods := #[k9m0]
  instanceTypes := #[]
  staticTypes := #[(.array (.object "java/lang/Long")), (.array (.object "java/lang/Long")), .boolean]
  resolved := Array.replicate 63 none
  statics := some 0 }

def pool10 : Array CpInfo := pool [(1, u "java/lang/Cloneable"), (0, .class_ 1), (0, u "java/lang/Object"), (0, .class_ 3)] 3

/-- java/lang/Cloneable -/
def k10 : Class := { plain "java/lang/Cloneable" (some 0) with
  accessFlags := 1537
  interfaces := #[]
  cf := some (fileOf pool10 2 #[] #[] 1537 4 #[] #[])
  fields := #[]
  methods := #[]
  instanceTypes := #[]
  staticTypes := #[]
  resolved := Array.replicate 8 none
  statics := none }

/-- the primitive byte -/
def k11 : Class := { plain "byte" none with kind := .primitive 'B', accessFlags := 0x411 }
/-- [B -/
def k12 : Class := { plain "[B" (some 0) with kind := .array 11 .byte, interfaces := #[10, 3], accessFlags := 1041 }

/-- the primitive int -/
def k13 : Class := { plain "int" none with kind := .primitive 'I', accessFlags := 0x411 }
/-- [I -/
def k14 : Class := { plain "[I" (some 0) with kind := .array 13 .int, interfaces := #[10, 3], accessFlags := 1041 }

/-- [Ljava/lang/Long; -/
def k15 : Class := { plain "[Ljava/lang/Long;" (some 0) with kind := .array 8 (.object "java/lang/Long"), interfaces := #[10, 3], accessFlags := 1041 }

def heap : Heap := #[{ cls := 9, slots := #[.ref 1, .null, .int 0], vm := .statics 9 },
  { cls := 15, slots := #[.ref 2, .ref 3, .ref 4, .ref 5, .ref 6, .ref 7, .ref 8, .ref 9, .ref 10, .ref 11, .ref 12, .ref 13, .ref 14, .ref 15, .ref 16, .ref 17, .ref 18, .ref 19, .ref 20, .ref 21, .ref 22, .ref 23, .ref 24, .ref 25, .ref 26, .ref 27, .ref 28, .ref 29, .ref 30, .ref 31, .ref 32, .ref 33, .ref 34, .ref 35, .ref 36, .ref 37, .ref 38, .ref 39, .ref 40, .ref 41, .ref 42, .ref 43, .ref 44, .ref 45, .ref 46, .ref 47, .ref 48, .ref 49, .ref 50, .ref 51, .ref 52, .ref 53, .ref 54, .ref 55, .ref 56, .ref 57, .ref 58, .ref 59, .ref 60, .ref 61, .ref 62, .ref 63, .ref 64, .ref 65, .ref 66, .ref 67, .ref 68, .ref 69, .ref 70, .ref 71, .ref 72, .ref 73, .ref 74, .ref 75, .ref 76, .ref 77, .ref 78, .ref 79, .ref 80, .ref 81, .ref 82, .ref 83, .ref 84, .ref 85, .ref 86, .ref 87, .ref 88, .ref 89, .ref 90, .ref 91, .ref 92, .ref 93, .ref 94, .ref 95, .ref 96, .ref 97, .ref 98, .ref 99, .ref 100, .ref 101, .ref 102, .ref 103, .ref 104, .ref 105, .ref 106, .ref 107, .ref 108, .ref 109, .ref 110, .ref 111, .ref 112, .ref 113, .ref 114, .ref 115, .ref 116, .ref 117, .ref 118, .ref 119, .ref 120, .ref 121, .ref 122, .ref 123, .ref 124, .ref 125, .ref 126, .ref 127, .ref 128, .ref 129, .ref 130, .ref 131, .ref 132, .ref 133, .ref 134, .ref 135, .ref 136, .ref 137, .ref 138, .ref 139, .ref 140, .ref 141, .ref 142, .ref 143, .ref 144, .ref 145, .ref 146, .ref 147, .ref 148, .ref 149, .ref 150, .ref 151, .ref 152, .ref 153, .ref 154, .ref 155, .ref 156, .ref 157, .ref 158, .ref 159, .ref 160, .ref 161, .ref 162, .ref 163, .ref 164, .ref 165, .ref 166, .ref 167, .ref 168, .ref 169, .ref 170, .ref 171, .ref 172, .ref 173, .ref 174, .ref 175, .ref 176, .ref 177, .ref 178, .ref 179, .ref 180, .ref 181, .ref 182, .ref 183, .ref 184, .ref 185, .ref 186, .ref 187, .ref 188, .ref 189, .ref 190, .ref 191, .ref 192, .ref 193, .ref 194, .ref 195, .ref 196, .ref 197, .ref 198, .ref 199, .ref 200, .ref 201, .ref 202, .ref 203, .ref 204, .ref 205, .ref 206, .ref 207, .ref 208, .ref 209, .ref 210, .ref 211, .ref 212, .ref 213, .ref 214, .ref 215, .ref 216, .ref 217, .ref 218, .ref 219, .ref 220, .ref 221, .ref 222, .ref 223, .ref 224, .ref 225, .ref 226, .ref 227, .ref 228, .ref 229, .ref 230, .ref 231, .ref 232, .ref 233, .ref 234, .ref 235, .ref 236, .ref 237, .ref 238, .ref 239, .ref 240, .ref 241, .ref 242, .ref 243, .ref 244, .ref 245, .ref 246, .ref 247, .ref 248, .ref 249, .ref 250, .ref 251, .ref 252, .ref 253, .ref 254, .ref 255, .ref 256, .ref 257], vm := .none },
  { cls := 8, slots := #[.long (-128)], vm := .none },
  { cls := 8, slots := #[.long (-127)], vm := .none },
  { cls := 8, slots := #[.long (-126)], vm := .none },
  { cls := 8, slots := #[.long (-125)], vm := .none },
  { cls := 8, slots := #[.long (-124)], vm := .none },
  { cls := 8, slots := #[.long (-123)], vm := .none },
  { cls := 8, slots := #[.long (-122)], vm := .none },
  { cls := 8, slots := #[.long (-121)], vm := .none },
  { cls := 8, slots := #[.long (-120)], vm := .none },
  { cls := 8, slots := #[.long (-119)], vm := .none },
  { cls := 8, slots := #[.long (-118)], vm := .none },
  { cls := 8, slots := #[.long (-117)], vm := .none },
  { cls := 8, slots := #[.long (-116)], vm := .none },
  { cls := 8, slots := #[.long (-115)], vm := .none },
  { cls := 8, slots := #[.long (-114)], vm := .none },
  { cls := 8, slots := #[.long (-113)], vm := .none },
  { cls := 8, slots := #[.long (-112)], vm := .none },
  { cls := 8, slots := #[.long (-111)], vm := .none },
  { cls := 8, slots := #[.long (-110)], vm := .none },
  { cls := 8, slots := #[.long (-109)], vm := .none },
  { cls := 8, slots := #[.long (-108)], vm := .none },
  { cls := 8, slots := #[.long (-107)], vm := .none },
  { cls := 8, slots := #[.long (-106)], vm := .none },
  { cls := 8, slots := #[.long (-105)], vm := .none },
  { cls := 8, slots := #[.long (-104)], vm := .none },
  { cls := 8, slots := #[.long (-103)], vm := .none },
  { cls := 8, slots := #[.long (-102)], vm := .none },
  { cls := 8, slots := #[.long (-101)], vm := .none },
  { cls := 8, slots := #[.long (-100)], vm := .none },
  { cls := 8, slots := #[.long (-99)], vm := .none },
  { cls := 8, slots := #[.long (-98)], vm := .none },
  { cls := 8, slots := #[.long (-97)], vm := .none },
  { cls := 8, slots := #[.long (-96)], vm := .none },
  { cls := 8, slots := #[.long (-95)], vm := .none },
  { cls := 8, slots := #[.long (-94)], vm := .none },
  { cls := 8, slots := #[.long (-93)], vm := .none },
  { cls := 8, slots := #[.long (-92)], vm := .none },
  { cls := 8, slots := #[.long (-91)], vm := .none },
  { cls := 8, slots := #[.long (-90)], vm := .none },
  { cls := 8, slots := #[.long (-89)], vm := .none },
  { cls := 8, slots := #[.long (-88)], vm := .none },
  { cls := 8, slots := #[.long (-87)], vm := .none },
  { cls := 8, slots := #[.long (-86)], vm := .none },
  { cls := 8, slots := #[.long (-85)], vm := .none },
  { cls := 8, slots := #[.long (-84)], vm := .none },
  { cls := 8, slots := #[.long (-83)], vm := .none },
  { cls := 8, slots := #[.long (-82)], vm := .none },
  { cls := 8, slots := #[.long (-81)], vm := .none },
  { cls := 8, slots := #[.long (-80)], vm := .none },
  { cls := 8, slots := #[.long (-79)], vm := .none },
  { cls := 8, slots := #[.long (-78)], vm := .none },
  { cls := 8, slots := #[.long (-77)], vm := .none },
  { cls := 8, slots := #[.long (-76)], vm := .none },
  { cls := 8, slots := #[.long (-75)], vm := .none },
  { cls := 8, slots := #[.long (-74)], vm := .none },
  { cls := 8, slots := #[.long (-73)], vm := .none },
  { cls := 8, slots := #[.long (-72)], vm := .none },
  { cls := 8, slots := #[.long (-71)], vm := .none },
  { cls := 8, slots := #[.long (-70)], vm := .none },
  { cls := 8, slots := #[.long (-69)], vm := .none },
  { cls := 8, slots := #[.long (-68)], vm := .none },
  { cls := 8, slots := #[.long (-67)], vm := .none },
  { cls := 8, slots := #[.long (-66)], vm := .none },
  { cls := 8, slots := #[.long (-65)], vm := .none },
  { cls := 8, slots := #[.long (-64)], vm := .none },
  { cls := 8, slots := #[.long (-63)], vm := .none },
  { cls := 8, slots := #[.long (-62)], vm := .none },
  { cls := 8, slots := #[.long (-61)], vm := .none },
  { cls := 8, slots := #[.long (-60)], vm := .none },
  { cls := 8, slots := #[.long (-59)], vm := .none },
  { cls := 8, slots := #[.long (-58)], vm := .none },
  { cls := 8, slots := #[.long (-57)], vm := .none },
  { cls := 8, slots := #[.long (-56)], vm := .none },
  { cls := 8, slots := #[.long (-55)], vm := .none },
  { cls := 8, slots := #[.long (-54)], vm := .none },
  { cls := 8, slots := #[.long (-53)], vm := .none },
  { cls := 8, slots := #[.long (-52)], vm := .none },
  { cls := 8, slots := #[.long (-51)], vm := .none },
  { cls := 8, slots := #[.long (-50)], vm := .none },
  { cls := 8, slots := #[.long (-49)], vm := .none },
  { cls := 8, slots := #[.long (-48)], vm := .none },
  { cls := 8, slots := #[.long (-47)], vm := .none },
  { cls := 8, slots := #[.long (-46)], vm := .none },
  { cls := 8, slots := #[.long (-45)], vm := .none },
  { cls := 8, slots := #[.long (-44)], vm := .none },
  { cls := 8, slots := #[.long (-43)], vm := .none },
  { cls := 8, slots := #[.long (-42)], vm := .none },
  { cls := 8, slots := #[.long (-41)], vm := .none },
  { cls := 8, slots := #[.long (-40)], vm := .none },
  { cls := 8, slots := #[.long (-39)], vm := .none },
  { cls := 8, slots := #[.long (-38)], vm := .none },
  { cls := 8, slots := #[.long (-37)], vm := .none },
  { cls := 8, slots := #[.long (-36)], vm := .none },
  { cls := 8, slots := #[.long (-35)], vm := .none },
  { cls := 8, slots := #[.long (-34)], vm := .none },
  { cls := 8, slots := #[.long (-33)], vm := .none },
  { cls := 8, slots := #[.long (-32)], vm := .none },
  { cls := 8, slots := #[.long (-31)], vm := .none },
  { cls := 8, slots := #[.long (-30)], vm := .none },
  { cls := 8, slots := #[.long (-29)], vm := .none },
  { cls := 8, slots := #[.long (-28)], vm := .none },
  { cls := 8, slots := #[.long (-27)], vm := .none },
  { cls := 8, slots := #[.long (-26)], vm := .none },
  { cls := 8, slots := #[.long (-25)], vm := .none },
  { cls := 8, slots := #[.long (-24)], vm := .none },
  { cls := 8, slots := #[.long (-23)], vm := .none },
  { cls := 8, slots := #[.long (-22)], vm := .none },
  { cls := 8, slots := #[.long (-21)], vm := .none },
  { cls := 8, slots := #[.long (-20)], vm := .none },
  { cls := 8, slots := #[.long (-19)], vm := .none },
  { cls := 8, slots := #[.long (-18)], vm := .none },
  { cls := 8, slots := #[.long (-17)], vm := .none },
  { cls := 8, slots := #[.long (-16)], vm := .none },
  { cls := 8, slots := #[.long (-15)], vm := .none },
  { cls := 8, slots := #[.long (-14)], vm := .none },
  { cls := 8, slots := #[.long (-13)], vm := .none },
  { cls := 8, slots := #[.long (-12)], vm := .none },
  { cls := 8, slots := #[.long (-11)], vm := .none },
  { cls := 8, slots := #[.long (-10)], vm := .none },
  { cls := 8, slots := #[.long (-9)], vm := .none },
  { cls := 8, slots := #[.long (-8)], vm := .none },
  { cls := 8, slots := #[.long (-7)], vm := .none },
  { cls := 8, slots := #[.long (-6)], vm := .none },
  { cls := 8, slots := #[.long (-5)], vm := .none },
  { cls := 8, slots := #[.long (-4)], vm := .none },
  { cls := 8, slots := #[.long (-3)], vm := .none },
  { cls := 8, slots := #[.long (-2)], vm := .none },
  { cls := 8, slots := #[.long (-1)], vm := .none },
  { cls := 8, slots := #[.long (0)], vm := .none },
  { cls := 8, slots := #[.long (1)], vm := .none },
  { cls := 8, slots := #[.long (2)], vm := .none },
  { cls := 8, slots := #[.long (3)], vm := .none },
  { cls := 8, slots := #[.long (4)], vm := .none },
  { cls := 8, slots := #[.long (5)], vm := .none },
  { cls := 8, slots := #[.long (6)], vm := .none },
  { cls := 8, slots := #[.long (7)], vm := .none },
  { cls := 8, slots := #[.long (8)], vm := .none },
  { cls := 8, slots := #[.long (9)], vm := .none },
  { cls := 8, slots := #[.long (10)], vm := .none },
  { cls := 8, slots := #[.long (11)], vm := .none },
  { cls := 8, slots := #[.long (12)], vm := .none },
  { cls := 8, slots := #[.long (13)], vm := .none },
  { cls := 8, slots := #[.long (14)], vm := .none },
  { cls := 8, slots := #[.long (15)], vm := .none },
  { cls := 8, slots := #[.long (16)], vm := .none },
  { cls := 8, slots := #[.long (17)], vm := .none },
  { cls := 8, slots := #[.long (18)], vm := .none },
  { cls := 8, slots := #[.long (19)], vm := .none },
  { cls := 8, slots := #[.long (20)], vm := .none },
  { cls := 8, slots := #[.long (21)], vm := .none },
  { cls := 8, slots := #[.long (22)], vm := .none },
  { cls := 8, slots := #[.long (23)], vm := .none },
  { cls := 8, slots := #[.long (24)], vm := .none },
  { cls := 8, slots := #[.long (25)], vm := .none },
  { cls := 8, slots := #[.long (26)], vm := .none },
  { cls := 8, slots := #[.long (27)], vm := .none },
  { cls := 8, slots := #[.long (28)], vm := .none },
  { cls := 8, slots := #[.long (29)], vm := .none },
  { cls := 8, slots := #[.long (30)], vm := .none },
  { cls := 8, slots := #[.long (31)], vm := .none },
  { cls := 8, slots := #[.long (32)], vm := .none },
  { cls := 8, slots := #[.long (33)], vm := .none },
  { cls := 8, slots := #[.long (34)], vm := .none },
  { cls := 8, slots := #[.long (35)], vm := .none },
  { cls := 8, slots := #[.long (36)], vm := .none },
  { cls := 8, slots := #[.long (37)], vm := .none },
  { cls := 8, slots := #[.long (38)], vm := .none },
  { cls := 8, slots := #[.long (39)], vm := .none },
  { cls := 8, slots := #[.long (40)], vm := .none },
  { cls := 8, slots := #[.long (41)], vm := .none },
  { cls := 8, slots := #[.long (42)], vm := .none },
  { cls := 8, slots := #[.long (43)], vm := .none },
  { cls := 8, slots := #[.long (44)], vm := .none },
  { cls := 8, slots := #[.long (45)], vm := .none },
  { cls := 8, slots := #[.long (46)], vm := .none },
  { cls := 8, slots := #[.long (47)], vm := .none },
  { cls := 8, slots := #[.long (48)], vm := .none },
  { cls := 8, slots := #[.long (49)], vm := .none },
  { cls := 8, slots := #[.long (50)], vm := .none },
  { cls := 8, slots := #[.long (51)], vm := .none },
  { cls := 8, slots := #[.long (52)], vm := .none },
  { cls := 8, slots := #[.long (53)], vm := .none },
  { cls := 8, slots := #[.long (54)], vm := .none },
  { cls := 8, slots := #[.long (55)], vm := .none },
  { cls := 8, slots := #[.long (56)], vm := .none },
  { cls := 8, slots := #[.long (57)], vm := .none },
  { cls := 8, slots := #[.long (58)], vm := .none },
  { cls := 8, slots := #[.long (59)], vm := .none },
  { cls := 8, slots := #[.long (60)], vm := .none },
  { cls := 8, slots := #[.long (61)], vm := .none },
  { cls := 8, slots := #[.long (62)], vm := .none },
  { cls := 8, slots := #[.long (63)], vm := .none },
  { cls := 8, slots := #[.long (64)], vm := .none },
  { cls := 8, slots := #[.long (65)], vm := .none },
  { cls := 8, slots := #[.long (66)], vm := .none },
  { cls := 8, slots := #[.long (67)], vm := .none },
  { cls := 8, slots := #[.long (68)], vm := .none },
  { cls := 8, slots := #[.long (69)], vm := .none },
  { cls := 8, slots := #[.long (70)], vm := .none },
  { cls := 8, slots := #[.long (71)], vm := .none },
  { cls := 8, slots := #[.long (72)], vm := .none },
  { cls := 8, slots := #[.long (73)], vm := .none },
  { cls := 8, slots := #[.long (74)], vm := .none },
  { cls := 8, slots := #[.long (75)], vm := .none },
  { cls := 8, slots := #[.long (76)], vm := .none },
  { cls := 8, slots := #[.long (77)], vm := .none },
  { cls := 8, slots := #[.long (78)], vm := .none },
  { cls := 8, slots := #[.long (79)], vm := .none },
  { cls := 8, slots := #[.long (80)], vm := .none },
  { cls := 8, slots := #[.long (81)], vm := .none },
  { cls := 8, slots := #[.long (82)], vm := .none },
  { cls := 8, slots := #[.long (83)], vm := .none },
  { cls := 8, slots := #[.long (84)], vm := .none },
  { cls := 8, slots := #[.long (85)], vm := .none },
  { cls := 8, slots := #[.long (86)], vm := .none },
  { cls := 8, slots := #[.long (87)], vm := .none },
  { cls := 8, slots := #[.long (88)], vm := .none },
  { cls := 8, slots := #[.long (89)], vm := .none },
  { cls := 8, slots := #[.long (90)], vm := .none },
  { cls := 8, slots := #[.long (91)], vm := .none },
  { cls := 8, slots := #[.long (92)], vm := .none },
  { cls := 8, slots := #[.long (93)], vm := .none },
  { cls := 8, slots := #[.long (94)], vm := .none },
  { cls := 8, slots := #[.long (95)], vm := .none },
  { cls := 8, slots := #[.long (96)], vm := .none },
  { cls := 8, slots := #[.long (97)], vm := .none },
  { cls := 8, slots := #[.long (98)], vm := .none },
  { cls := 8, slots := #[.long (99)], vm := .none },
  { cls := 8, slots := #[.long (100)], vm := .none },
  { cls := 8, slots := #[.long (101)], vm := .none },
  { cls := 8, slots := #[.long (102)], vm := .none },
  { cls := 8, slots := #[.long (103)], vm := .none },
  { cls := 8, slots := #[.long (104)], vm := .none },
  { cls := 8, slots := #[.long (105)], vm := .none },
  { cls := 8, slots := #[.long (106)], vm := .none },
  { cls := 8, slots := #[.long (107)], vm := .none },
  { cls := 8, slots := #[.long (108)], vm := .none },
  { cls := 8, slots := #[.long (109)], vm := .none },
  { cls := 8, slots := #[.long (110)], vm := .none },
  { cls := 8, slots := #[.long (111)], vm := .none },
  { cls := 8, slots := #[.long (112)], vm := .none },
  { cls := 8, slots := #[.long (113)], vm := .none },
  { cls := 8, slots := #[.long (114)], vm := .none },
  { cls := 8, slots := #[.long (115)], vm := .none },
  { cls := 8, slots := #[.long (116)], vm := .none },
  { cls := 8, slots := #[.long (117)], vm := .none },
  { cls := 8, slots := #[.long (118)], vm := .none },
  { cls := 8, slots := #[.long (119)], vm := .none },
  { cls := 8, slots := #[.long (120)], vm := .none },
  { cls := 8, slots := #[.long (121)], vm := .none },
  { cls := 8, slots := #[.long (122)], vm := .none },
  { cls := 8, slots := #[.long (123)], vm := .none },
  { cls := 8, slots := #[.long (124)], vm := .none },
  { cls := 8, slots := #[.long (125)], vm := .none },
  { cls := 8, slots := #[.long (126)], vm := .none },
  { cls := 8, slots := #[.long (127)], vm := .none }]
def classes : Array Class := #[k0, k1, k2, k3, k4, k5, k6, k7, k8, k9, k10, k11, k12, k13, k14, k15]
def interned : List (Array UInt16 × Addr) := []
def slotsUsed : Nat := 515
def theMethod : MethodId := ⟨1, 1⟩
def args0 : Array Value := #[.long 5, .long 5, .long 5, .long 5, .int 5]
def aboutOver (below : List Frame) : State where
  vm := { classes := classes, interned := interned.toArray }
  heap := heap
  slotsUsed := slotsUsed
  threads := #[{ frames := .invoking theMethod args0 :: below }]
def below0 : List Frame := [.native { method := ⟨0, 0⟩, args := #[] }]
def about1 : State := aboutOver below0
def p0 : Program := .bare "" "" ""
def e0 : Env := launch0.env 0 0 0
theorem w_frames : about1.frames = Frame.invoking theMethod args0 :: below0 := rfl
set_option maxRecDepth 65536 in
theorem w_args : argsFit about1.vm theMethod args0 = true := by decide +kernel
set_option maxRecDepth 65536 in
theorem w_heap : heapFits about1 = true := by decide +kernel
set_option maxRecDepth 65536 in
theorem w_runnable : about1.curStatus? = some .runnable := by decide +kernel
set_option maxRecDepth 65536 in
theorem w_alone : about1.alone = true := by decide +kernel
set_option maxRecDepth 65536 in
theorem w_named : about1.methodNamed? x = some theMethod := by decide +kernel
set_option maxRecDepth 65536 in
theorem w_hears : about1.hears theMethod below0 = true := by decide +kernel
set_option maxRecDepth 65536 in
theorem w_ripe : about1.ripe theMethod args0 below0 = true := by decide +kernel
theorem w_running : about1.status = .running := rfl
set_option maxRecDepth 65536 in
theorem w_room : about1.hasRoom e0.platform room_1 = true :=
  launch0.hasRoom_least _ room_1 (by decide +kernel) (by decide +kernel) (by decide +kernel) (by decide +kernel) (by decide +kernel) (by decide +kernel)
theorem allAtoms_all (ts : List Jvm.Cond) (a : Array Jvm.Value) (st : Jvm.State) : (allAtoms ts).before a st = ts.all (fun c => c.before a st) := by
  induction ts with
  | nil => rfl
  | cons c t ih =>
    show (Jvm.Cond.and c (allAtoms t)).before a st = _
    rw [Jvm.Cond.before_and, ih, List.all_cons]
def words1 : List Jvm.Cond := Jvm.Cond.code x code maxLocals ret :: tables_1
/-- a 'code' word, met by the world's own term for the bytes: nothing is compared byte by byte -/
theorem code_word {y : MethodName} {bytes : ByteArray} {mx : Nat} {rt : Option FieldType} {a : Array Value} {s : State} {m : MethodId} {meth : Method} {c : Code} (h1 : s.methodNamed? y = some m) (h2 : s.vm.method? m = some meth) (h3 : meth.code = some c) (h4 : c.code = bytes)
    (h5 : (c.maxLocals == mx && c.exceptionTable.isEmpty && decide (c.maxStack ≤ mostOperands) && decide (meth.sig.returnType = rt) && !meth.locks && decide (parseMethodDescriptor y.desc = some meth.sig)) = true) : (Jvm.Cond.code y bytes mx rt).before a s = true := by
  simp only [Bool.and_eq_true, beq_iff_eq, Bool.not_eq_true', decide_eq_true_eq] at h5
  obtain ⟨⟨⟨⟨⟨g1, g2⟩, g3⟩, g4⟩, g5⟩, g6⟩ := h5
  simp [Cond.before, Cond.holds, Cond.value, h1, h2, h3, h4, g1, g2, g3, g4, g5, g6]
def isCode : Jvm.Cond → Bool
  | .code _ _ _ _ => true
  | _ => false
theorem all_split {L : List Jvm.Cond} {P : Jvm.Cond → Bool} (h1 : L.all (fun c => isCode c || P c) = true) (h2 : ∀ c ∈ L.filter isCode, P c = true) : L.all P = true := by
  refine List.all_eq_true.mpr fun c hc => ?_
  have h := List.all_eq_true.mp h1 c hc
  rcases Bool.eq_false_or_eq_true (isCode c) with hi | hi
  · exact h2 c (List.mem_filter.mpr ⟨hc, hi⟩)
  · simpa [hi] using h
set_option maxRecDepth 65536 in
theorem w_c0 : (Jvm.Cond.code x code maxLocals ret).before args0 about1 = true := code_word (m := ⟨1, 1⟩) (meth := k1m1) (c := k1c1) (by decide +kernel) rfl rfl rfl (by decide +kernel)
set_option maxRecDepth 65536 in
theorem w_c1 : (Jvm.Cond.code ({ cls := "com/example/millrace/millrace/queue/JournalClock", name := "<init>", desc := "(JJJ)V" } : Jvm.MethodName) prog_19_method_2_code (7 : Nat) (Option.none : Option Jvm.ClassFile.FieldType)).before args0 about1 = true := code_word (m := ⟨2, 1⟩) (meth := k2m1) (c := k2c1) (by decide +kernel) rfl rfl rfl (by decide +kernel)
set_option maxRecDepth 65536 in
theorem w_c2 : (Jvm.Cond.code ({ cls := "java/lang/Object", name := "<init>", desc := "()V" } : Jvm.MethodName) object_method_1_code (1 : Nat) (Option.none : Option Jvm.ClassFile.FieldType)).before args0 about1 = true := code_word (m := ⟨0, 0⟩) (meth := k0m0) (c := k0c0) (by decide +kernel) rfl rfl rfl (by decide +kernel)
set_option maxRecDepth 65536 in
theorem w_c3 : (Jvm.Cond.code ({ cls := "com/example/millrace/millrace/queue/JournalClock", name := "equals", desc := "(Ljava/lang/Object;)Z" } : Jvm.MethodName) prog_19_method_10_code (3 : Nat) (Option.some Jvm.ClassFile.FieldType.boolean)).before args0 about1 = true := code_word (m := ⟨2, 2⟩) (meth := k2m2) (c := k2c2) (by decide +kernel) rfl rfl rfl (by decide +kernel)
set_option maxRecDepth 65536 in
theorem w_c4 : (Jvm.Cond.code ({ cls := "com/example/millrace/millrace/queue/JournalClock", name := "<init>", desc := "()V" } : Jvm.MethodName) prog_19_method_1_code (1 : Nat) (Option.none : Option Jvm.ClassFile.FieldType)).before args0 about1 = true := code_word (m := ⟨2, 0⟩) (meth := k2m0) (c := k2c0) (by decide +kernel) rfl rfl rfl (by decide +kernel)
set_option maxRecDepth 65536 in
theorem w_c5 : (Jvm.Cond.code ({ cls := "java/lang/Long", name := "valueOf", desc := "(J)Ljava/lang/Long;" } : Jvm.MethodName) jdk_35_method_24_code (3 : Nat) (Option.some (Jvm.ClassFile.FieldType.object "java/lang/Long"))).before args0 about1 = true := code_word (m := ⟨8, 0⟩) (meth := k8m0) (c := k8c0) (by decide +kernel) rfl rfl rfl (by decide +kernel)
set_option maxRecDepth 65536 in
theorem w_c6 : (Jvm.Cond.code ({ cls := "java/lang/Long", name := "<init>", desc := "(J)V" } : Jvm.MethodName) jdk_35_method_26_code (3 : Nat) (Option.none : Option Jvm.ClassFile.FieldType)).before args0 about1 = true := code_word (m := ⟨8, 1⟩) (meth := k8m1) (c := k8c1) (by decide +kernel) rfl rfl rfl (by decide +kernel)
set_option maxRecDepth 65536 in
theorem w_c7 : (Jvm.Cond.code ({ cls := "java/lang/Number", name := "<init>", desc := "()V" } : Jvm.MethodName) jdk_18_method_1_code (1 : Nat) (Option.none : Option Jvm.ClassFile.FieldType)).before args0 about1 = true := code_word (m := ⟨4, 0⟩) (meth := k4m0) (c := k4c0) (by decide +kernel) rfl rfl rfl (by decide +kernel)
def codes1 : List Jvm.Cond := [Jvm.Cond.code x code maxLocals ret, Jvm.Cond.code ({ cls := "com/example/millrace/millrace/queue/JournalClock", name := "<init>", desc := "(JJJ)V" } : Jvm.MethodName) prog_19_method_2_code (7 : Nat) (Option.none : Option Jvm.ClassFile.FieldType), Jvm.Cond.code ({ cls := "java/lang/Object", name := "<init>", desc := "()V" } : Jvm.MethodName) object_method_1_code (1 : Nat) (Option.none : Option Jvm.ClassFile.FieldType), Jvm.Cond.code ({ cls := "com/example/millrace/millrace/queue/JournalClock", name := "equals", desc := "(Ljava/lang/Object;)Z" } : Jvm.MethodName) prog_19_method_10_code (3 : Nat) (Option.some Jvm.ClassFile.FieldType.boolean), Jvm.Cond.code ({ cls := "com/example/millrace/millrace/queue/JournalClock", name := "<init>", desc := "()V" } : Jvm.MethodName) prog_19_method_1_code (1 : Nat) (Option.none : Option Jvm.ClassFile.FieldType), Jvm.Cond.code ({ cls := "java/lang/Long", name := "valueOf", desc := "(J)Ljava/lang/Long;" } : Jvm.MethodName) jdk_35_method_24_code (3 : Nat) (Option.some (Jvm.ClassFile.FieldType.object "java/lang/Long")), Jvm.Cond.code ({ cls := "java/lang/Long", name := "<init>", desc := "(J)V" } : Jvm.MethodName) jdk_35_method_26_code (3 : Nat) (Option.none : Option Jvm.ClassFile.FieldType), Jvm.Cond.code ({ cls := "java/lang/Number", name := "<init>", desc := "()V" } : Jvm.MethodName) jdk_18_method_1_code (1 : Nat) (Option.none : Option Jvm.ClassFile.FieldType)]
set_option maxRecDepth 65536 in
theorem codes_eq : words1.filter isCode = codes1 := rfl
theorem w_codes : ∀ c ∈ words1.filter isCode, c.before args0 about1 = true := by
  rw [codes_eq]
  intro c hc
  simp only [codes1, List.mem_cons, List.not_mem_nil, or_false] at hc
  rcases hc with rfl | rfl | rfl | rfl | rfl | rfl | rfl | rfl
  · exact w_c0
  · exact w_c1
  · exact w_c2
  · exact w_c3
  · exact w_c4
  · exact w_c5
  · exact w_c6
  · exact w_c7
set_option maxRecDepth 65536 in
theorem w_t1 : (words1.take 24).all (fun c => isCode c || c.before args0 about1) = true := by decide +kernel
set_option maxRecDepth 65536 in
theorem w_t2 : ((words1.drop 24).take 24).all (fun c => isCode c || c.before args0 about1) = true := by decide +kernel
set_option maxRecDepth 65536 in
theorem w_t3 : ((words1.drop 24).drop 24).all (fun c => isCode c || c.before args0 about1) = true := by decide +kernel
theorem w_tables : (allAtoms (Jvm.Cond.code x code maxLocals ret :: tables_1)).before args0 about1 = true := by
  rw [allAtoms_all]
  show words1.all (fun c => c.before args0 about1) = true
  refine all_split ?_ w_codes
  rw [← List.take_append_drop 24 words1, List.all_append, w_t1, ← List.take_append_drop 24 (words1.drop 24), List.all_append, w_t2, w_t3]
  rfl
set_option maxRecDepth 65536 in
theorem w_rest : rest_1_c.before args0 about1 = true := by decide +kernel
set_option maxRecDepth 65536 in
theorem w_case : (Jvm.Cond.and given_1 narrow_1).before args0 about1 = true := by decide +kernel
theorem w_applies : (headSpec (Jvm.Cond.code x code maxLocals ret :: tables_1) room_1).applies x e0.platform about1 = true :=
  (Spec.applies_iff w_frames).mpr ⟨w_running, w_runnable, w_alone, w_named, w_hears, w_ripe, w_room, w_tables⟩
theorem atStart : AtStart classFile x code maxLocals ret World_1 tables_1 room_1 Calls_1 rest_1 Pre_1 launch0 p0 e0 about1 theMethod args0 below0 :=
  ⟨lists_1, trivial, launch0.admits_env _ _ _, launch0.least_env, fairChoices_fair.cas, fairChoices_fair.clock, w_frames, w_args, w_heap, w_applies, trivial, w_rest, w_case⟩
end start1
theorem witness_1 : WitnessClaimed_1 := ⟨start1.p0, start1.e0, start1.about1, start1.theMethod, start1.args0, start1.below0, start1.atStart⟩
end Jvm.Pilot.@@N@@
