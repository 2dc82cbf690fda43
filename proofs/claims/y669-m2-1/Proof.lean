import JvmDerived
import JvmDerived.Pilot.@@N@@Statement
import JvmDerived.Pilot.@@N@@Code
set_option linter.unusedVariables false
set_option linter.unusedSimpArgs false
namespace Jvm.Pilot.@@N@@
open Jvm Jvm.ClassFile Sem Op Lib Jvm.Free Jvm.Stand Jvm.LawKit Jvm.RoadKit Bundle Jvm.Pilot.@@N@@.Jvm.D
section OwnKit
variable {p : Program} {l : Launch} {e : Env} {R : Room} {s : State} {m : MethodId} {args : Array Value} {below : List Frame} {meth : Method} {c : Code} {T : State} {locs : List Loc} {cells slots : Nat}
/-- from the state A the body runs to its end and leaves what Q says -/
def own_Go (p : Program) (e : Env) (below : List Frame) (s : State) (Q : Option Value → Heap → List Loc → Prop) (kc ks : Nat) (A : State) : Prop :=
  ∃ s₂ o, Steps p.tables e below A s₂ ∧ s₂.status = .running ∧ Ended s₂ below o ∧ ∃ v L, o = .returned v ∧ Q v s₂.heap L ∧ FrameEnd s o s₂ L kc ks
theorem own_go {Q : Option Value → Heap → List Loc → Prop} {kc ks : Nat} {A B : State} (h : ∀ t, Steps p.tables e below B t → Steps p.tables e below A t) (k : own_Go p e below s Q kc ks B) : own_Go p e below s Q kc ks A := by
  obtain ⟨s₂, o, h1, h2⟩ := k
  exact ⟨s₂, o, h _ h1, h2⟩
/-- from the state A the body runs to the frame g', the heap as it was -/
def own_Arm (p : Program) (l : Launch) (e : Env) (R : Room) (s : State) (m : MethodId) (args : Array Value) (below : List Frame) (meth : Method) (c : Code) (cells slots n0 : Nat) (h : Heap) (g' : JFrame) (A : State) : Prop :=
  ∃ (T' : State) (locs' : List Loc), Stand p l e R s m args below meth c T' locs' cells slots ∧ Fr n0 locs' ∧ T'.heap = h ∧ ∀ t, Steps p.tables e below (T'.setTop g') t → Steps p.tables e below A t
theorem own_arm {n0 : Nat} {h : Heap} {g' : JFrame} {A B : State} (k1 : ∀ t, Steps p.tables e below B t → Steps p.tables e below A t) (k : own_Arm p l e R s m args below meth c cells slots n0 h g' B) : own_Arm p l e R s m args below meth c cells slots n0 h g' A := by
  obtain ⟨T', locs', h1, h2, h3, h4⟩ := k
  exact ⟨T', locs', h1, h2, h3, fun t kt => k1 t (h4 t kt)⟩
theorem own_armEnd {n0 : Nat} {h : Heap} {g g' : JFrame} (X : Stand p l e R s m args below meth c T locs cells slots) (N : Fr n0 locs) (eT : T.heap = h) (q : g' = g) : own_Arm p l e R s m args below meth c cells slots n0 h g' (T.setTop g) :=
  ⟨T, locs, X, N, eT, fun t kt => q ▸ kt⟩
theorem own_mrg {n0 : Nat} {h : Heap} {g g' : JFrame} (X : Stand p l e R s m args below meth c T locs cells slots) (k : own_Arm p l e R s m args below meth c cells slots n0 h g' (T.setTop g)) :
    ∃ (T' : State) (locs' : List Loc), Stand p l e R s m args below meth c T' locs' cells slots ∧ Fr n0 locs' ∧ T'.heap = h ∧ ∀ t, Steps p.tables e below (T'.setTop g') t → Steps p.tables e below (T.setTop g) t := k
theorem own_leave {Q : Option Value → Heap → List Loc → Prop} {kc ks : Nat} {A : State} {v : Option Value} (X : Stand p l e R s m args below meth c T locs cells slots) (hv : meth.sig.returnType = none → v = none) (hlk : meth.locks = false)
    (hc : cells ≤ kc) (hs : slots ≤ ks) (hQ : Q v T.heap locs) (k : ∀ fs, (∀ (f : JFrame) (acts : List Action), f.method = m → f.locked = none → f.entered = [] → (doReturn e (T.setTop f) acts v).1 = T.setFrames fs) → Steps p.tables e below A (T.setFrames fs)) : own_Go p e below s Q kc ks A := by
  obtain ⟨fs, hr, hrun, hended, hW, hsame⟩ := X.leave (v := v) hv hlk
  exact ⟨_, _, k fs hr, hrun, hended, _, _, rfl, hQ, ⟨_, rfl⟩, hW, hsame.mono hc hs⟩
theorem own_retI {Q : Option Value → Heap → List Loc → Prop} {kc ks pc : Nat} {Ls : Array Slot} {z : Int32} {rest : List Value} (X : Stand p l e R s m args below meth c T locs cells slots) (hx : p.tables.exec = Jvm.exec) (hret : meth.sig.returnType = some .int) (hlk : meth.locks = false)
    (hd : decode c.code pc = .ok (.ireturn, 1)) (hc : cells ≤ kc) (hs : slots ≤ ks) (hQ : Q (some (.int z)) T.heap locs) : own_Go p e below s Q kc ks (T.setTop (mkF m pc Ls (.int z :: rest))) := by
  refine own_leave X (fun h => by rw [hret] at h; cases h) hlk hc hs hQ fun fs hl => ?_
  have hm' : T.vm.method? m = some meth := X.method'
  have hn : narrow .int (.int z) = .int z := rfl
  show Steps p.tables e below (T.setTop { method := m, pc := pc, locals := Ls, stack := _ :: rest, locked := none }) _
  jvm_step X.here [X.here.top, hx, hd, hm', hret, hn]
  first | (intro acts; rw [hl _ acts rfl rfl rfl]) | rw [hl _ _ rfl rfl rfl]
  exact Steps.refl _
theorem own_retN {Q : Option Value → Heap → List Loc → Prop} {kc ks pc : Nat} {Ls : Array Slot} {z : Int32} {rest : List Value} {t : FieldType} (X : Stand p l e R s m args below meth c T locs cells slots) (hx : p.tables.exec = Jvm.exec) (hret : meth.sig.returnType = some t) (ht : t = .boolean ∨ t = .byte ∨ t = .char ∨ t = .short) (hlk : meth.locks = false)
    (hd : decode c.code pc = .ok (.ireturn, 1)) (hc : cells ≤ kc) (hs : slots ≤ ks) (hQ : Q (some (.int (nar t z))) T.heap locs) : own_Go p e below s Q kc ks (T.setTop (mkF m pc Ls (.int z :: rest))) :=
  own_leave X (fun h => by rw [hret] at h; cases h) hlk hc hs hQ fun fs hl => retN X hx (t := t) hret ht hd hl
theorem own_nar01 {z : Int32} (h : z = 0 ∨ z = 1) : nar .boolean z = z := by rcases h with rfl | rfl <;> rfl
theorem own_retZ {Q : Option Value → Heap → List Loc → Prop} {kc ks pc : Nat} {Ls : Array Slot} {z : Int32} {rest : List Value} (X : Stand p l e R s m args below meth c T locs cells slots) (hx : p.tables.exec = Jvm.exec) (hret : meth.sig.returnType = some .boolean) (hlk : meth.locks = false)
    (hd : decode c.code pc = .ok (.ireturn, 1)) (hc : cells ≤ kc) (hs : slots ≤ ks) (hz : z = 0 ∨ z = 1) (hQ : Q (some (.int z)) T.heap locs) : own_Go p e below s Q kc ks (T.setTop (mkF m pc Ls (.int z :: rest))) :=
  own_retN X hx hret (Or.inl rfl) hlk hd hc hs (by rw [own_nar01 hz]; exact hQ)
theorem own_retJ {Q : Option Value → Heap → List Loc → Prop} {kc ks pc : Nat} {Ls : Array Slot} {z : Int64} (X : Stand p l e R s m args below meth c T locs cells slots) (hx : p.tables.exec = Jvm.exec) (hret : meth.sig.returnType = some .long) (hlk : meth.locks = false)
    (hd : decode c.code pc = .ok (.lreturn, 1)) (hc : cells ≤ kc) (hs : slots ≤ ks) (hQ : Q (some (.long z)) T.heap locs) : own_Go p e below s Q kc ks (T.setTop (mkF m pc Ls [.long z])) :=
  own_leave X (fun h => by rw [hret] at h; cases h) hlk hc hs hQ fun fs hl => X.lreturnOut hx hret hd hl
theorem own_retA {Q : Option Value → Heap → List Loc → Prop} {kc ks pc : Nat} {Ls : Array Slot} {w : Value} {t : FieldType} {rest : List Value} (X : Stand p l e R s m args below meth c T locs cells slots) (hx : p.tables.exec = Jvm.exec) (hret : meth.sig.returnType = some t) (ht : t.isReference = true) (hw : w.isRef = true) (hlk : meth.locks = false)
    (hd : decode c.code pc = .ok (.areturn, 1)) (hc : cells ≤ kc) (hs : slots ≤ ks) (hQ : Q (some w) T.heap locs) : own_Go p e below s Q kc ks (T.setTop (mkF m pc Ls (w :: rest))) := by
  refine own_leave X (fun h => by rw [hret] at h; cases h) hlk hc hs hQ fun fs hl => ?_
  have hm' : T.vm.method? m = some meth := X.method'
  show Steps p.tables e below (T.setTop { method := m, pc := pc, locals := Ls, stack := _ :: rest, locked := none }) _
  rcases ref_cases hw with rfl | ⟨a, rfl⟩
  all_goals
    jvm_step X.here [X.here.top, hx, hd, hm', hret, Value.isRef, ht]
    first | (intro acts; rw [hl _ acts rfl rfl rfl]) | rw [hl _ _ rfl rfl rfl]
    exact Steps.refl _
theorem own_retV {Q : Option Value → Heap → List Loc → Prop} {kc ks pc : Nat} {Ls : Array Slot} (X : Stand p l e R s m args below meth c T locs cells slots) (hx : p.tables.exec = Jvm.exec) (hret : meth.sig.returnType = none) (hlk : meth.locks = false)
    (hd : decode c.code pc = .ok (.return_, 1)) (hc : cells ≤ kc) (hs : slots ≤ ks) (hQ : Q none T.heap locs) : own_Go p e below s Q kc ks (T.setTop (mkF m pc Ls [])) :=
  own_leave X (fun _ => rfl) hlk hc hs hQ fun fs hl => X.returnOut hx hret hd hl
theorem own_getFR {Z : State} {a0 : Array Value} {h : Heap} (X : Stand p l e R s m args below meth c T locs cells slots) (hx : p.tables.exec = Jvm.exec) (hZ : Z.Warmed39 s.vm) {own O n d : String} {index : Nat} (hown : s.vm.findClass own = some m.cls) (w : (Jvm.Cond.fieldRef own index O n d).before a0 Z = true)
    (eT : T.heap = h) {a : Addr} {v : Value} (F : Fld Z h a O n d v) {g : JFrame} (hg : g.method = m) {rest : List Value} (hs : g.stack = .ref a :: rest) (hd : decode c.code g.pc = .ok (.getfield index, 3)) (target : State) (k : Steps p.tables e below (T.setTop { g with pc := g.pc + 3, stack := v :: rest }) target) : Steps p.tables e below (T.setTop g) target := by
  obtain ⟨cell, cf, kc, i, f, h1, h2, h3, h4, -, -, h7⟩ := F
  have hW : Z.Warmed39 T.vm := wtrans hZ X.warmed
  have w2 := Cond.fieldRef_warmed39 hW w
  obtain ⟨k', hi, -⟩ := State.fieldFound?_setVm (s := Z) hW.alike h2
  have hc : (Z.setVm T.vm).vm.findClass own = some m.cls := by show T.vm.findClass own = _; rw [X.warmed.alike.findClass]; exact hown
  obtain ⟨c1, k1, i1, f1, e1, hr⟩ := Cond.fieldRef_spec hc w2
  cases hi.symm.trans e1
  exact (X.getfieldR hx hg (cF := cf) (field := f) hr h3 hs (by rw [eT]; exact h1) h4 h7 hd (Steps.refl _)).trans k
theorem own_ite01 {c : Prop} [Decidable c] {a b : Int32} (ha : a = 0 ∨ a = 1) (hb : b = 0 ∨ b = 1) : (if c then a else b) = 0 ∨ (if c then a else b) = 1 := by split <;> assumption
end OwnKit
theorem own_remI (a b : Int32) : a - a / b * b = a % b := by
  apply Int32.toInt_inj.mp
  rw [Int32.toInt_sub, Int32.toInt_mul, Int32.toInt_div, Int32.toInt_mod]
  rw [Int.bmod_mul_bmod, Int.sub_bmod_bmod]
  have e : a.toInt - a.toInt.tdiv b.toInt * b.toInt = a.toInt.tmod b.toInt := by
    have := Int.mul_tdiv_add_tmod a.toInt b.toInt
    rw [Int.mul_comm] at this
    omega
  rw [e, ← Int32.toInt_mod]
  exact Int.bmod_eq_of_le (by have := Int32.le_toInt (a % b); omega) (by have := Int32.toInt_lt (a % b); omega)
theorem own_remJ (a b : Int64) : a - a / b * b = a % b := by
  apply Int64.toInt_inj.mp
  rw [Int64.toInt_sub, Int64.toInt_mul, Int64.toInt_div, Int64.toInt_mod]
  rw [Int.bmod_mul_bmod, Int.sub_bmod_bmod]
  have e : a.toInt - a.toInt.tdiv b.toInt * b.toInt = a.toInt.tmod b.toInt := by
    have := Int.mul_tdiv_add_tmod a.toInt b.toInt
    rw [Int.mul_comm] at this
    omega
  rw [e, ← Int64.toInt_mod]
  exact Int.bmod_eq_of_le (by have := Int64.le_toInt (a % b); omega) (by have := Int64.toInt_lt (a % b); omega)
theorem own_lc_eq {a b : Int64} (h : a = b) : lcmpW a b = 0 := by subst h; simp [lcmpW]
theorem own_lc_neq {a b : Int64} (h : ¬ (a = b)) : ¬ (lcmpW a b = 0) := by unfold lcmpW; split <;> first | decide | (rw [if_neg h]; decide)
theorem own_lc_lt {a b : Int64} (h : a < b) : lcmpW a b < 0 := by
  have h1 : ¬ (a > b) := fun q => Int64.lt_irrefl (Int64.lt_trans h q)
  have h2 : ¬ (a = b) := fun q => by subst q; exact Int64.lt_irrefl h
  rw [lcmpW, if_neg h1, if_neg h2]; decide
theorem own_lc_nlt {a b : Int64} (h : ¬ (a < b)) : ¬ (lcmpW a b < 0) := by
  unfold lcmpW
  split
  · decide
  · rename_i h1
    split
    · decide
    · rename_i h2; exact absurd (Int64.le_antisymm (Int64.not_lt.mp h1) (Int64.not_lt.mp h)) h2
theorem own_lc_gt {a b : Int64} (h : b < a) : (0 : Int32) < lcmpW a b := by rw [lcmpW, if_pos h]; decide
theorem own_lc_ngt {a b : Int64} (h : ¬ (b < a)) : ¬ ((0 : Int32) < lcmpW a b) := by
  rw [lcmpW, if_neg h]; split <;> decide
theorem own_rn {w : Value} {C : String} (h : w.isRef = true) : narrow (.object C) w = w := by rcases ref_cases h with rfl | ⟨a, rfl⟩ <;> rfl
theorem own_rf {w : Value} {C : String} (h : w.isRef = true) : fits (.object C) w = true := by rcases ref_cases h with rfl | ⟨a, rfl⟩ <;> rfl
theorem own_plainE {Z : State} {h : Heap} {a : Addr} {C : String} (E : Exa Z h a C) : ∀ cell : Cell, h[a]? = some cell → cell.vm.isStatics = false := fun cell hc => by
  obtain ⟨c, k, h1, -, -, h4, -⟩ := E
  cases h1.symm.trans hc; exact h4
theorem own_staKeep {Z : State} {h h' : Heap} {C n d : String} {v : Value} {ws : List Addr} (F : Sta Z h C n d v) (K : Keep h h' ws) (q : ∀ x ∈ ws, ∀ cell : Cell, h[x]? = some cell → cell.vm.isStatics = false) : Sta Z h' C n d v := by
  obtain ⟨cf, i, k, f, st, cell, h1, h2, h3, h4, h5, h6, h7⟩ := F
  exact ⟨cf, i, k, f, st, cell, h1, h2, h3, h4, K.2.1 st cell h5 (fun hm => by rw [q st hm cell h5] at h6; cases h6), h6, h7⟩
def own_up {α : Type} (f : Nat → α) (i : Nat) (v : α) : Nat → α := fun k => if k = i then v else f k
def own_AI (Z : State) (h : Heap) (a : Addr) (ty : FieldType) (n : Nat) (f : Nat → Int32) : Prop := ∃ c : Cell, Arr Z h a c ty ∧ c.slots.size = n ∧ n < 2 ^ 31 ∧ ∀ j, j < n → c.slots[j]? = some (.int (f j))
theorem own_AI.lt {Z : State} {h : Heap} {a : Addr} {ty : FieldType} {n : Nat} {f : Nat → Int32} (F : own_AI Z h a ty n f) : a < h.size := by obtain ⟨c, A, -⟩ := F; exact A.lt
theorem own_AI.ext {Z : State} {h h' : Heap} {a : Addr} {ty : FieldType} {n : Nat} {f : Nat → Int32} (F : own_AI Z h a ty n f) (E : Ext h h') : own_AI Z h' a ty n f := by obtain ⟨c, A, r⟩ := F; exact ⟨c, A.ext E, r⟩
theorem own_AI.other {Z : State} {h h' : Heap} {a b : Addr} {ty : FieldType} {n sl : Nat} {w : Value} {f : Nat → Int32} (F : own_AI Z h a ty n f) (W : Wr h h' b sl w) (q : a ≠ b) : own_AI Z h' a ty n f := by obtain ⟨c, A, r⟩ := F; exact ⟨c, A.other W q, r⟩
theorem own_AI.keep {Z : State} {h h' : Heap} {a : Addr} {ty : FieldType} {n : Nat} {ws : List Addr} {f : Nat → Int32} (F : own_AI Z h a ty n f) (K : Keep h h' ws) (q : a ∉ ws) : own_AI Z h' a ty n f := by obtain ⟨c, A, r⟩ := F; exact ⟨c, ⟨K.2.1 a c A.1 q, A.2⟩, r⟩
theorem own_plainAI {Z : State} {h : Heap} {a : Addr} {ty : FieldType} {n : Nat} {f : Nat → Int32} (F : own_AI Z h a ty n f) : ∀ cell : Cell, h[a]? = some cell → cell.vm.isStatics = false := fun cell hc => by
  obtain ⟨c, A, -⟩ := F
  cases A.1.symm.trans hc; exact A.plain
theorem own_AI.wr {Z : State} {h h' : Heap} {a : Addr} {ty : FieldType} {n i : Nat} {x : Int32} {f : Nat → Int32} (F : own_AI Z h a ty n f) (W : Wr h h' a i (.int x)) : own_AI Z h' a ty n (own_up f i x) := by
  obtain ⟨c, A, S, B, H⟩ := F
  refine ⟨_, A.same W, by rw [sz_set]; exact S, B, fun j hj => ?_⟩
  show (c.slots.setIfInBounds i _)[j]? = _
  rw [Array.getElem?_setIfInBounds]
  by_cases q : i = j
  · subst q
    rw [if_pos rfl, if_pos (by rw [S]; exact hj)]; simp [own_up]
  · rw [if_neg q, H j hj, own_up, if_neg (fun e => q e.symm)]
theorem own_AI.new {Z : State} {h : Heap} {a : Addr} {k : ClassId} {ty : FieldType} {z : Int32} {n : Nat} (A : Arr Z h a (newA k ty z) ty) (hd : defaultValue ty = .int 0) (hn : z.toNatClampNeg = n) : own_AI Z h a ty n (fun _ => 0) := by
  refine ⟨_, A, by rw [sz_new]; exact hn, ?_, fun j hj => ?_⟩
  · have := Int32.toInt_lt z; rw [← hn]; unfold Int32.toNatClampNeg; omega
  · have hs : (newA k ty z).slots.size = n := by rw [sz_new]; exact hn
    simp only [newA] at hs ⊢
    rw [Array.getElem?_replicate, if_pos (by rw [hn]; exact hj), hd]
def own_AJ (Z : State) (h : Heap) (a : Addr) (ty : FieldType) (n : Nat) (f : Nat → Int64) : Prop := ∃ c : Cell, Arr Z h a c ty ∧ c.slots.size = n ∧ n < 2 ^ 31 ∧ ∀ j, j < n → c.slots[j]? = some (.long (f j))
theorem own_AJ.lt {Z : State} {h : Heap} {a : Addr} {ty : FieldType} {n : Nat} {f : Nat → Int64} (F : own_AJ Z h a ty n f) : a < h.size := by obtain ⟨c, A, -⟩ := F; exact A.lt
theorem own_AJ.ext {Z : State} {h h' : Heap} {a : Addr} {ty : FieldType} {n : Nat} {f : Nat → Int64} (F : own_AJ Z h a ty n f) (E : Ext h h') : own_AJ Z h' a ty n f := by obtain ⟨c, A, r⟩ := F; exact ⟨c, A.ext E, r⟩
theorem own_AJ.other {Z : State} {h h' : Heap} {a b : Addr} {ty : FieldType} {n sl : Nat} {w : Value} {f : Nat → Int64} (F : own_AJ Z h a ty n f) (W : Wr h h' b sl w) (q : a ≠ b) : own_AJ Z h' a ty n f := by obtain ⟨c, A, r⟩ := F; exact ⟨c, A.other W q, r⟩
theorem own_AJ.keep {Z : State} {h h' : Heap} {a : Addr} {ty : FieldType} {n : Nat} {ws : List Addr} {f : Nat → Int64} (F : own_AJ Z h a ty n f) (K : Keep h h' ws) (q : a ∉ ws) : own_AJ Z h' a ty n f := by obtain ⟨c, A, r⟩ := F; exact ⟨c, ⟨K.2.1 a c A.1 q, A.2⟩, r⟩
theorem own_plainAJ {Z : State} {h : Heap} {a : Addr} {ty : FieldType} {n : Nat} {f : Nat → Int64} (F : own_AJ Z h a ty n f) : ∀ cell : Cell, h[a]? = some cell → cell.vm.isStatics = false := fun cell hc => by
  obtain ⟨c, A, -⟩ := F
  cases A.1.symm.trans hc; exact A.plain
theorem own_AJ.wr {Z : State} {h h' : Heap} {a : Addr} {ty : FieldType} {n i : Nat} {x : Int64} {f : Nat → Int64} (F : own_AJ Z h a ty n f) (W : Wr h h' a i (.long x)) : own_AJ Z h' a ty n (own_up f i x) := by
  obtain ⟨c, A, S, B, H⟩ := F
  refine ⟨_, A.same W, by rw [sz_set]; exact S, B, fun j hj => ?_⟩
  show (c.slots.setIfInBounds i _)[j]? = _
  rw [Array.getElem?_setIfInBounds]
  by_cases q : i = j
  · subst q
    rw [if_pos rfl, if_pos (by rw [S]; exact hj)]; simp [own_up]
  · rw [if_neg q, H j hj, own_up, if_neg (fun e => q e.symm)]
theorem own_AJ.new {Z : State} {h : Heap} {a : Addr} {k : ClassId} {ty : FieldType} {z : Int32} {n : Nat} (A : Arr Z h a (newA k ty z) ty) (hd : defaultValue ty = .long 0) (hn : z.toNatClampNeg = n) : own_AJ Z h a ty n (fun _ => 0) := by
  refine ⟨_, A, by rw [sz_new]; exact hn, ?_, fun j hj => ?_⟩
  · have := Int32.toInt_lt z; rw [← hn]; unfold Int32.toNatClampNeg; omega
  · have hs : (newA k ty z).slots.size = n := by rw [sz_new]; exact hn
    simp only [newA] at hs ⊢
    rw [Array.getElem?_replicate, if_pos (by rw [hn]; exact hj), hd]
section OwnArr
variable {p : Program} {l : Launch} {e : Env} {R : Room} {s : State} {m : MethodId} {args : Array Value} {below : List Frame} {meth : Method} {c : Code} {T : State} {locs : List Loc} {cells slots : Nat} {Z : State} {h : Heap}
theorem own_inb {j : Int32} {n k : Nat} (S : k = n) (hj : ¬ j < 0 ∧ j.toNatClampNeg < n) : ¬ (j < 0 ∨ k ≤ j.toNatClampNeg) := fun q => q.elim hj.1 (fun u => absurd hj.2 (by omega))
theorem own_ldI (X : Stand p l e R s m args below meth c T locs cells slots) (hx : p.tables.exec = Jvm.exec) (hZ : Z.Warmed39 s.vm) (eT : T.heap = h) {a : Addr} {n : Nat} {f : Nat → Int32} (A : own_AI Z h a .int n f) {j : Int32} (hj : ¬ j < 0 ∧ j.toNatClampNeg < n)
    {g : JFrame} (hg : g.method = m) {rest : List Value} (hs : g.stack = .int j :: .ref a :: rest) (hd : decode c.code g.pc = .ok (.iaload, 1)) (target : State) (k : Steps p.tables e below (T.setTop { g with pc := g.pc + 1, stack := .int (f j.toNatClampNeg) :: rest }) target) : Steps p.tables e below (T.setTop g) target := by
  obtain ⟨c', Ar, S, -, H⟩ := A
  exact X.iaload hx (by rw [eT]; exact Ar.1) (State.isArrayOf_alike hZ.alike Ar.2.1) Ar.2.2 (own_inb S hj) (H _ hj.2) hg hs hd target k
theorem own_ldB (X : Stand p l e R s m args below meth c T locs cells slots) (hx : p.tables.exec = Jvm.exec) (hZ : Z.Warmed39 s.vm) (eT : T.heap = h) {a : Addr} {n : Nat} {f : Nat → Int32} (A : own_AI Z h a .byte n f) {j : Int32} (hj : ¬ j < 0 ∧ j.toNatClampNeg < n)
    {g : JFrame} (hg : g.method = m) {rest : List Value} (hs : g.stack = .int j :: .ref a :: rest) (hd : decode c.code g.pc = .ok (.baload, 1)) (target : State) (k : Steps p.tables e below (T.setTop { g with pc := g.pc + 1, stack := .int (f j.toNatClampNeg) :: rest }) target) : Steps p.tables e below (T.setTop g) target := by
  obtain ⟨c', Ar, S, -, H⟩ := A
  exact X.baloadBytes hx (by rw [eT]; exact Ar.1) (State.isArrayOf_alike hZ.alike Ar.2.1) Ar.2.2 (own_inb S hj) (H _ hj.2) hg hs hd target k
theorem own_ldJ (X : Stand p l e R s m args below meth c T locs cells slots) (hx : p.tables.exec = Jvm.exec) (hZ : Z.Warmed39 s.vm) (eT : T.heap = h) {a : Addr} {n : Nat} {f : Nat → Int64} (A : own_AJ Z h a .long n f) {j : Int32} (hj : ¬ j < 0 ∧ j.toNatClampNeg < n)
    {g : JFrame} (hg : g.method = m) {rest : List Value} (hs : g.stack = .int j :: .ref a :: rest) (hd : decode c.code g.pc = .ok (.laload, 1)) (target : State) (k : Steps p.tables e below (T.setTop { g with pc := g.pc + 1, stack := .long (f j.toNatClampNeg) :: rest }) target) : Steps p.tables e below (T.setTop g) target := by
  obtain ⟨c', Ar, S, -, H⟩ := A
  exact X.laload hx (by rw [eT]; exact Ar.1) (State.isArrayOf_alike hZ.alike Ar.2.1) Ar.2.2 (own_inb S hj) (H _ hj.2) hg hs hd target k
theorem own_lenI (X : Stand p l e R s m args below meth c T locs cells slots) (hx : p.tables.exec = Jvm.exec) (hZ : Z.Warmed39 s.vm) (eT : T.heap = h) {a : Addr} {ty : FieldType} {n : Nat} {f : Nat → Int32} (A : own_AI Z h a ty n f)
    {g : JFrame} (hg : g.method = m) {rest : List Value} (hs : g.stack = .ref a :: rest) (hd : decode c.code g.pc = .ok (.arraylength, 1)) (target : State) (k : Steps p.tables e below (T.setTop { g with pc := g.pc + 1, stack := .int (n.toInt32) :: rest }) target) : Steps p.tables e below (T.setTop g) target := by
  obtain ⟨c', Ar, S, -, H⟩ := A
  exact X.arraylength hx (by rw [eT]; exact Ar.1) (State.isArrayOf_alike hZ.alike Ar.2.1) hg hs hd target (by rw [S]; exact k)
theorem own_lenJ (X : Stand p l e R s m args below meth c T locs cells slots) (hx : p.tables.exec = Jvm.exec) (hZ : Z.Warmed39 s.vm) (eT : T.heap = h) {a : Addr} {ty : FieldType} {n : Nat} {f : Nat → Int64} (A : own_AJ Z h a ty n f)
    {g : JFrame} (hg : g.method = m) {rest : List Value} (hs : g.stack = .ref a :: rest) (hd : decode c.code g.pc = .ok (.arraylength, 1)) (target : State) (k : Steps p.tables e below (T.setTop { g with pc := g.pc + 1, stack := .int (n.toInt32) :: rest }) target) : Steps p.tables e below (T.setTop g) target := by
  obtain ⟨c', Ar, S, -, H⟩ := A
  exact X.arraylength hx (by rw [eT]; exact Ar.1) (State.isArrayOf_alike hZ.alike Ar.2.1) hg hs hd target (by rw [S]; exact k)
theorem own_stI (X : Stand p l e R s m args below meth c T locs cells slots) (hx : p.tables.exec = Jvm.exec) (hZ : Z.Warmed39 s.vm) (eT : T.heap = h) {a : Addr} {n : Nat} {f : Nat → Int32} (A : own_AI Z h a .int n f) {j x : Int32} (hj : ¬ j < 0 ∧ j.toNatClampNeg < n)
    {g : JFrame} (hg : g.method = m) {rest : List Value} (hs : g.stack = .int x :: .int j :: .ref a :: rest) (hd : decode c.code g.pc = .ok (.iastore, 1)) :
    ∃ T' h', Stand p l e R s m args below meth c T' (locs ++ [⟨a, j.toNatClampNeg⟩]) cells slots ∧ T'.heap = h' ∧ Wr h h' a j.toNatClampNeg (.int x) ∧ own_AI Z h' a .int n (own_up f j.toNatClampNeg x) ∧ ∀ target, Steps p.tables e below (T'.setTop { g with pc := g.pc + 1, stack := rest }) target → Steps p.tables e below (T.setTop g) target := by
  have A2 := A
  obtain ⟨c', Ar, S, -, H⟩ := A
  obtain ⟨T', h', X', e', W, st⟩ := stI X hx hZ eT Ar (j := j) (x := x) (own_inb S hj) hg hs hd
  exact ⟨T', h', X', e', W, A2.wr W, st⟩
theorem own_stB (X : Stand p l e R s m args below meth c T locs cells slots) (hx : p.tables.exec = Jvm.exec) (hZ : Z.Warmed39 s.vm) (eT : T.heap = h) {a : Addr} {n : Nat} {f : Nat → Int32} (A : own_AI Z h a .byte n f) {j x : Int32} (hj : ¬ j < 0 ∧ j.toNatClampNeg < n)
    {g : JFrame} (hg : g.method = m) {rest : List Value} (hs : g.stack = .int x :: .int j :: .ref a :: rest) (hd : decode c.code g.pc = .ok (.bastore, 1)) :
    ∃ T' h', Stand p l e R s m args below meth c T' (locs ++ [⟨a, j.toNatClampNeg⟩]) cells slots ∧ T'.heap = h' ∧ Wr h h' a j.toNatClampNeg (.int (nar .byte x)) ∧ own_AI Z h' a .byte n (own_up f j.toNatClampNeg (nar .byte x)) ∧ ∀ target, Steps p.tables e below (T'.setTop { g with pc := g.pc + 1, stack := rest }) target → Steps p.tables e below (T.setTop g) target := by
  have A2 := A
  obtain ⟨c', Ar, S, -, H⟩ := A
  obtain ⟨T', h', X', e', W, st⟩ := stB X hx hZ eT Ar (j := j) (x := x) (own_inb S hj) hg hs hd
  exact ⟨T', h', X', e', W, A2.wr W, st⟩
theorem own_stC (X : Stand p l e R s m args below meth c T locs cells slots) (hx : p.tables.exec = Jvm.exec) (hZ : Z.Warmed39 s.vm) (eT : T.heap = h) {a : Addr} {n : Nat} {f : Nat → Int32} (A : own_AI Z h a .char n f) {j x : Int32} (hj : ¬ j < 0 ∧ j.toNatClampNeg < n)
    {g : JFrame} (hg : g.method = m) {rest : List Value} (hs : g.stack = .int x :: .int j :: .ref a :: rest) (hd : decode c.code g.pc = .ok (.castore, 1)) :
    ∃ T' h', Stand p l e R s m args below meth c T' (locs ++ [⟨a, j.toNatClampNeg⟩]) cells slots ∧ T'.heap = h' ∧ Wr h h' a j.toNatClampNeg (.int (nar .char x)) ∧ own_AI Z h' a .char n (own_up f j.toNatClampNeg (nar .char x)) ∧ ∀ target, Steps p.tables e below (T'.setTop { g with pc := g.pc + 1, stack := rest }) target → Steps p.tables e below (T.setTop g) target := by
  have A2 := A
  obtain ⟨c', Ar, S, -, H⟩ := A
  obtain ⟨T', h', X', e', W, st⟩ := stC X hx hZ eT Ar (j := j) (x := x) (own_inb S hj) hg hs hd
  exact ⟨T', h', X', e', W, A2.wr W, st⟩
theorem own_stJ (X : Stand p l e R s m args below meth c T locs cells slots) (hx : p.tables.exec = Jvm.exec) (hZ : Z.Warmed39 s.vm) (eT : T.heap = h) {a : Addr} {n : Nat} {f : Nat → Int64} (A : own_AJ Z h a .long n f) {j : Int32} {x : Int64} (hj : ¬ j < 0 ∧ j.toNatClampNeg < n)
    {g : JFrame} (hg : g.method = m) {rest : List Value} (hs : g.stack = .long x :: .int j :: .ref a :: rest) (hd : decode c.code g.pc = .ok (.lastore, 1)) :
    ∃ T' h', Stand p l e R s m args below meth c T' (locs ++ [⟨a, j.toNatClampNeg⟩]) cells slots ∧ T'.heap = h' ∧ Wr h h' a j.toNatClampNeg (.long x) ∧ own_AJ Z h' a .long n (own_up f j.toNatClampNeg x) ∧ ∀ target, Steps p.tables e below (T'.setTop { g with pc := g.pc + 1, stack := rest }) target → Steps p.tables e below (T.setTop g) target := by
  have A2 := A
  obtain ⟨c', Ar, S, -, H⟩ := A
  obtain ⟨T', h', X', e', W, st⟩ := stJ X hx hZ eT Ar (j := j) (x := x) (own_inb S hj) hg hs hd
  exact ⟨T', h', X', e', W, A2.wr W, st⟩
end OwnArr
theorem own_fldI {s : State} {args : Array Value} {t : Term} {u : Addr} {C n d : String} {k : Int32} (et : t.eval args s none [] s = some (.ref u)) (h : (Jvm.Cond.eq (.field t C n d) (.int k)).value args s none s [] = some true) : Fld s s.heap u C n d (.int k) := by
  obtain ⟨x, y, ha, hb, -, -⟩ := cmp_v (Or.inl h)
  have hy : y = .int k := (Option.some.inj ((Term.int_eval k).symm.trans hb)).symm
  subst hy
  refine Fld.start ?_
  rw [← fld_at (o := none) (idx := []) et, ha]
  simp only [Cond.value, ha, hb] at h
  cases x <;> simp_all
theorem own_fldN {s : State} {args : Array Value} {t : Term} {u : Addr} {C n d : String} (et : t.eval args s none [] s = some (.ref u)) (h : (Jvm.Cond.eq (.field t C n d) .null).value args s none s [] = some true) : Fld s s.heap u C n d .null :=
  Fld.start (by rw [← fld_at (o := none) (idx := []) et]; exact null_v h)
theorem own_fldR {s : State} {args : Array Value} {t t' : Term} {u u' : Addr} {C n d : String} (et : t.eval args s none [] s = some (.ref u)) (et' : t'.eval args s none [] s = some (.ref u')) (h : (Jvm.Cond.eq (.field t C n d) t').value args s none s [] = some true) : Fld s s.heap u C n d (.ref u') := by
  obtain ⟨x, y, ha, hb, -, -⟩ := cmp_v (Or.inl h)
  have hy : y = .ref u' := Option.some.inj (hb.symm.trans et')
  subst hy
  refine Fld.start ?_
  rw [← fld_at (o := none) (idx := []) et, ha]
  simp only [Cond.value, ha, hb] at h
  cases x <;> simp_all
theorem own_neI {s : State} {args : Array Value} {t : Term} {u k : Int32} (et : t.eval args s none [] s = some (.int u)) (h : (Jvm.Cond.not (Jvm.Cond.eq t (.int k))).value args s none s [] = some true) : ¬ (u = k) := fun q => by
  have q2 := not_v h
  have hb : (Term.int k).eval args s none [] s = some (.int k) := Term.int_eval k
  subst q
  simp only [Cond.value, et, hb] at q2
  simp at q2
theorem d1_0 : decode method_2_code 0 = .ok (.iload_n 0, 1) := by decide +kernel
theorem d1_1 : decode method_2_code 1 = .ok (.ifCond .ne 7, 3) := by decide +kernel
theorem d1_4 : decode method_2_code 4 = .ok (.getstatic 7, 3) := by decide +kernel
theorem d1_7 : decode method_2_code 7 = .ok (.areturn, 1) := by decide +kernel
theorem ef_1_0 (m : MethodId) (p0 : Int32) : entryFrame m #[(.int p0)] 1 = mkF m 0 #[.val (.int p0)] [] := by (first | (simp [entryFrame, mkF, argsToLocals, Value.category]; done) | rfl)
theorem pn0 : plainName "com/example/muset/muset/sparql/BuiltInTakesPinLaw" = true := by first | (simp [plainName, overriddenIn]; done) | decide +kernel
def Q1_0 (Z : State) (p0 : Int32) (u1 : Addr) (h0 : Heap) (n0 : Nat) (v : Option Value) (h : Heap) (L : List Loc) : Prop := v = some (.ref u1) ∧ Fr n0 L ∧ h = h0
set_option maxRecDepth 65536 in
set_option maxHeartbeats 40000000 in
theorem rm1_0 (l : Launch) (Z : State) (a0 : Array Value) (hw : ∀ d ∈ tables_1, d.before a0 Z = true) (ws : List Jvm.Cond) (p0 : Int32) (u1 : Addr) (h0 : Heap) (n0 : Nat) (Z0 : n0 ≤ h0.size) (hbb : p0 = (0 : Int32)) (S_STR : Sta Z h0 "com/example/muset/muset/sparql/BuiltInCall$BuiltIn" "STR" "Lcom/example/muset/muset/sparql/BuiltInCall$BuiltIn;" (.ref u1)) :
    MetFree l (⟨"com/example/muset/muset/sparql/BuiltInTakesPinLaw", "pick", "(I)Lcom/example/muset/muset/sparql/BuiltInCall$BuiltIn;"⟩ : MethodName) (head1 (Jvm.Cond.code (⟨"com/example/muset/muset/sparql/BuiltInTakesPinLaw", "pick", "(I)Lcom/example/muset/muset/sparql/BuiltInCall$BuiltIn;"⟩ : MethodName) method_2_code 1 (some (.object "com/example/muset/muset/sparql/BuiltInCall$BuiltIn")) :: ws) ({ frames := 0, cells := 0, slots := 0, locals := 0 } : Room)) (fun a U => a = #[(.int p0)] ∧ Z.Warmed39 U.vm ∧ U.heap = h0) (fun _ _ _ _ _ => True) (fun _ U o U' => ∃ v L, o = .returned v ∧ Q1_0 Z p0 u1 h0 n0 v U'.heap L ∧ FrameEnd U o U' L ({ frames := 0, cells := 0, slots := 0, locals := 0 } : Room).cells ({ frames := 0, cells := 0, slots := 0, locals := 0 } : Room).slots) := by
  refine MetFree.of_bodySF (plainFor_of_name pn0) hisR ?_
  intro p e s m args below meth c s₁ Bd hml0 hP hK
  obtain ⟨rfl, hZ, hh⟩ := hP
  have hx := Bd.exec
  have hby := Bd.bytes
  have hml : c.maxLocals = 1 := hml0
  have hown : s.vm.findClass "com/example/muset/muset/sparql/BuiltInTakesPinLaw" = some m.cls := findClass_of_methodNamed Bd.named
  have hnm := (name_of_methodNamed Bd.named Bd.method).1
  have X0 : Stand p l e ({ frames := 0, cells := 0, slots := 0, locals := 0 } : Room) s m #[(.int p0)] below meth c s₁ [] 0 0 := Stand.of_body Bd
  have e0 : s₁.heap = h0 := by rw [← hh, Bd.state]; rfl
  have N0 := Fr.nil n0
  have K0 : Keep h0 h0 [] := Keep.refl h0 _
  show own_Go p e below s (Q1_0 Z p0 u1 h0 n0) ({ frames := 0, cells := 0, slots := 0, locals := 0 } : Room).cells ({ frames := 0, cells := 0, slots := 0, locals := 0 } : Room).slots (s₁.setTop (entryFrame m #[(.int p0)] 1))
  refine own_go (fun t k => castTop (ef_1_0 m p0) k) ?_
  obtain ⟨T101, X101, e101, st101⟩ := getS2 X0 hx hZ hown (host := "") (Or.inl (hw _ (List.mem_of_getElem? (i := 5) rfl))) Via.refl e0 S_STR (g := (mkF m 4 #[.val (.int p0)] [])) rfl (hb hby d1_4)
  have hgo102 : ∀ t, Steps p.tables e below (T101.setTop (mkF m 7 #[.val (.int p0)] [(.ref u1)])) t → Steps p.tables e below (s₁.setTop (mkF m 0 #[.val (.int p0)] [])) t := by
    intro t kt
    show Steps p.tables e below (s₁.setTop (mkF m 0 #[.val (.int p0)] [])) _
    refine XS.iloadN X0.here hx rfl (hb hby d1_0) rfl ?_
    show Steps p.tables e below (s₁.setTop (mkF m 1 #[.val (.int p0)] [(.int p0)])) _
    refine XS.ifNo X0.here hx rfl (hb hby d1_1) rfl ((if0 _ _).trans (teq hbb).2) ?_
    show Steps p.tables e below (s₁.setTop (mkF m 4 #[.val (.int p0)] [])) _
    refine st101 _ ?_
    exact kt
  refine own_go hgo102 ?_
  exact own_retA X101 hx Bd.returns rfl rfl Bd.notSynchronized (hb hby d1_7) (by decide) (by decide) (by rw [e101]; exact ⟨(by rfl), N0, rfl⟩)
theorem d1_8 : decode method_2_code 8 = .ok (.iload_n 0, 1) := by decide +kernel
theorem d1_9 : decode method_2_code 9 = .ok (.iconst 1, 1) := by decide +kernel
theorem d1_10 : decode method_2_code 10 = .ok (.if_icmp .ne 7, 3) := by decide +kernel
theorem d1_13 : decode method_2_code 13 = .ok (.getstatic 13, 3) := by decide +kernel
theorem d1_16 : decode method_2_code 16 = .ok (.areturn, 1) := by decide +kernel
theorem ef_1_1 (m : MethodId) (p0 : Int32) : entryFrame m #[(.int p0)] 1 = mkF m 0 #[.val (.int p0)] [] := by (first | (simp [entryFrame, mkF, argsToLocals, Value.category]; done) | rfl)
def Q1_1 (Z : State) (p0 : Int32) (u1 : Addr) (h0 : Heap) (n0 : Nat) (v : Option Value) (h : Heap) (L : List Loc) : Prop := v = some (.ref u1) ∧ Fr n0 L ∧ h = h0
set_option maxRecDepth 65536 in
set_option maxHeartbeats 40000000 in
theorem rm1_1 (l : Launch) (Z : State) (a0 : Array Value) (hw : ∀ d ∈ tables_1, d.before a0 Z = true) (ws : List Jvm.Cond) (p0 : Int32) (u1 : Addr) (h0 : Heap) (n0 : Nat) (Z0 : n0 ≤ h0.size) (ha0 : ¬ (p0 = (0 : Int32))) (hbb : p0 = (1 : Int32)) (S_LANG : Sta Z h0 "com/example/muset/muset/sparql/BuiltInCall$BuiltIn" "LANG" "Lcom/example/muset/muset/sparql/BuiltInCall$BuiltIn;" (.ref u1)) :
    MetFree l (⟨"com/example/muset/muset/sparql/BuiltInTakesPinLaw", "pick", "(I)Lcom/example/muset/muset/sparql/BuiltInCall$BuiltIn;"⟩ : MethodName) (head1 (Jvm.Cond.code (⟨"com/example/muset/muset/sparql/BuiltInTakesPinLaw", "pick", "(I)Lcom/example/muset/muset/sparql/BuiltInCall$BuiltIn;"⟩ : MethodName) method_2_code 1 (some (.object "com/example/muset/muset/sparql/BuiltInCall$BuiltIn")) :: ws) ({ frames := 0, cells := 0, slots := 0, locals := 0 } : Room)) (fun a U => a = #[(.int p0)] ∧ Z.Warmed39 U.vm ∧ U.heap = h0) (fun _ _ _ _ _ => True) (fun _ U o U' => ∃ v L, o = .returned v ∧ Q1_1 Z p0 u1 h0 n0 v U'.heap L ∧ FrameEnd U o U' L ({ frames := 0, cells := 0, slots := 0, locals := 0 } : Room).cells ({ frames := 0, cells := 0, slots := 0, locals := 0 } : Room).slots) := by
  refine MetFree.of_bodySF (plainFor_of_name pn0) hisR ?_
  intro p e s m args below meth c s₁ Bd hml0 hP hK
  obtain ⟨rfl, hZ, hh⟩ := hP
  have hx := Bd.exec
  have hby := Bd.bytes
  have hml : c.maxLocals = 1 := hml0
  have hown : s.vm.findClass "com/example/muset/muset/sparql/BuiltInTakesPinLaw" = some m.cls := findClass_of_methodNamed Bd.named
  have hnm := (name_of_methodNamed Bd.named Bd.method).1
  have X0 : Stand p l e ({ frames := 0, cells := 0, slots := 0, locals := 0 } : Room) s m #[(.int p0)] below meth c s₁ [] 0 0 := Stand.of_body Bd
  have e0 : s₁.heap = h0 := by rw [← hh, Bd.state]; rfl
  have N0 := Fr.nil n0
  have K0 : Keep h0 h0 [] := Keep.refl h0 _
  show own_Go p e below s (Q1_1 Z p0 u1 h0 n0) ({ frames := 0, cells := 0, slots := 0, locals := 0 } : Room).cells ({ frames := 0, cells := 0, slots := 0, locals := 0 } : Room).slots (s₁.setTop (entryFrame m #[(.int p0)] 1))
  refine own_go (fun t k => castTop (ef_1_1 m p0) k) ?_
  obtain ⟨T101, X101, e101, st101⟩ := getS2 X0 hx hZ hown (host := "") (Or.inl (hw _ (List.mem_of_getElem? (i := 20) rfl))) Via.refl e0 S_LANG (g := (mkF m 13 #[.val (.int p0)] [])) rfl (hb hby d1_13)
  have hgo102 : ∀ t, Steps p.tables e below (T101.setTop (mkF m 16 #[.val (.int p0)] [(.ref u1)])) t → Steps p.tables e below (s₁.setTop (mkF m 0 #[.val (.int p0)] [])) t := by
    intro t kt
    show Steps p.tables e below (s₁.setTop (mkF m 0 #[.val (.int p0)] [])) _
    refine XS.iloadN X0.here hx rfl (hb hby d1_0) rfl ?_
    show Steps p.tables e below (s₁.setTop (mkF m 1 #[.val (.int p0)] [(.int p0)])) _
    refine XS.ifYes X0.here hx rfl (pc0 := 1) (pc' := 8) rfl (hb hby d1_1) rfl ((if0 _ _).trans (feq ha0).2) (by decide) (by decide) ?_
    show Steps p.tables e below (s₁.setTop (mkF m 8 #[.val (.int p0)] [])) _
    refine XS.iloadN X0.here hx rfl (hb hby d1_8) rfl ?_
    show Steps p.tables e below (s₁.setTop (mkF m 9 #[.val (.int p0)] [(.int p0)])) _
    refine XS.iconst X0.here hx rfl (hb hby d1_9) ?_
    show Steps p.tables e below (s₁.setTop (mkF m 10 #[.val (.int p0)] [(.int (1 : Int32)), (.int p0)])) _
    refine XS.icmpNo X0.here hx rfl (hb hby d1_10) rfl (teq hbb).2 ?_
    show Steps p.tables e below (s₁.setTop (mkF m 13 #[.val (.int p0)] [])) _
    refine st101 _ ?_
    exact kt
  refine own_go hgo102 ?_
  exact own_retA X101 hx Bd.returns rfl rfl Bd.notSynchronized (hb hby d1_16) (by decide) (by decide) (by rw [e101]; exact ⟨(by rfl), N0, rfl⟩)
theorem d1_17 : decode method_2_code 17 = .ok (.iload_n 0, 1) := by decide +kernel
theorem d1_18 : decode method_2_code 18 = .ok (.iconst 2, 1) := by decide +kernel
theorem d1_19 : decode method_2_code 19 = .ok (.if_icmp .ne 7, 3) := by decide +kernel
theorem d1_22 : decode method_2_code 22 = .ok (.getstatic 16, 3) := by decide +kernel
theorem d1_25 : decode method_2_code 25 = .ok (.areturn, 1) := by decide +kernel
theorem ef_1_2 (m : MethodId) (p0 : Int32) : entryFrame m #[(.int p0)] 1 = mkF m 0 #[.val (.int p0)] [] := by (first | (simp [entryFrame, mkF, argsToLocals, Value.category]; done) | rfl)
def Q1_2 (Z : State) (p0 : Int32) (u1 : Addr) (h0 : Heap) (n0 : Nat) (v : Option Value) (h : Heap) (L : List Loc) : Prop := v = some (.ref u1) ∧ Fr n0 L ∧ h = h0
set_option maxRecDepth 65536 in
set_option maxHeartbeats 40000000 in
theorem rm1_2 (l : Launch) (Z : State) (a0 : Array Value) (hw : ∀ d ∈ tables_1, d.before a0 Z = true) (ws : List Jvm.Cond) (p0 : Int32) (u1 : Addr) (h0 : Heap) (n0 : Nat) (Z0 : n0 ≤ h0.size) (ha0 : ¬ (p0 = (0 : Int32))) (ha1 : ¬ (p0 = (1 : Int32))) (hbb : p0 = (2 : Int32)) (S_LANG_MATCHES : Sta Z h0 "com/example/muset/muset/sparql/BuiltInCall$BuiltIn" "LANG_MATCHES" "Lcom/example/muset/muset/sparql/BuiltInCall$BuiltIn;" (.ref u1)) :
    MetFree l (⟨"com/example/muset/muset/sparql/BuiltInTakesPinLaw", "pick", "(I)Lcom/example/muset/muset/sparql/BuiltInCall$BuiltIn;"⟩ : MethodName) (head1 (Jvm.Cond.code (⟨"com/example/muset/muset/sparql/BuiltInTakesPinLaw", "pick", "(I)Lcom/example/muset/muset/sparql/BuiltInCall$BuiltIn;"⟩ : MethodName) method_2_code 1 (some (.object "com/example/muset/muset/sparql/BuiltInCall$BuiltIn")) :: ws) ({ frames := 0, cells := 0, slots := 0, locals := 0 } : Room)) (fun a U => a = #[(.int p0)] ∧ Z.Warmed39 U.vm ∧ U.heap = h0) (fun _ _ _ _ _ => True) (fun _ U o U' => ∃ v L, o = .returned v ∧ Q1_2 Z p0 u1 h0 n0 v U'.heap L ∧ FrameEnd U o U' L ({ frames := 0, cells := 0, slots := 0, locals := 0 } : Room).cells ({ frames := 0, cells := 0, slots := 0, locals := 0 } : Room).slots) := by
  refine MetFree.of_bodySF (plainFor_of_name pn0) hisR ?_
  intro p e s m args below meth c s₁ Bd hml0 hP hK
  obtain ⟨rfl, hZ, hh⟩ := hP
  have hx := Bd.exec
  have hby := Bd.bytes
  have hml : c.maxLocals = 1 := hml0
  have hown : s.vm.findClass "com/example/muset/muset/sparql/BuiltInTakesPinLaw" = some m.cls := findClass_of_methodNamed Bd.named
  have hnm := (name_of_methodNamed Bd.named Bd.method).1
  have X0 : Stand p l e ({ frames := 0, cells := 0, slots := 0, locals := 0 } : Room) s m #[(.int p0)] below meth c s₁ [] 0 0 := Stand.of_body Bd
  have e0 : s₁.heap = h0 := by rw [← hh, Bd.state]; rfl
  have N0 := Fr.nil n0
  have K0 : Keep h0 h0 [] := Keep.refl h0 _
  show own_Go p e below s (Q1_2 Z p0 u1 h0 n0) ({ frames := 0, cells := 0, slots := 0, locals := 0 } : Room).cells ({ frames := 0, cells := 0, slots := 0, locals := 0 } : Room).slots (s₁.setTop (entryFrame m #[(.int p0)] 1))
  refine own_go (fun t k => castTop (ef_1_2 m p0) k) ?_
  obtain ⟨T101, X101, e101, st101⟩ := getS2 X0 hx hZ hown (host := "") (Or.inl (hw _ (List.mem_of_getElem? (i := 36) rfl))) Via.refl e0 S_LANG_MATCHES (g := (mkF m 22 #[.val (.int p0)] [])) rfl (hb hby d1_22)
  have hgo102 : ∀ t, Steps p.tables e below (T101.setTop (mkF m 25 #[.val (.int p0)] [(.ref u1)])) t → Steps p.tables e below (s₁.setTop (mkF m 0 #[.val (.int p0)] [])) t := by
    intro t kt
    show Steps p.tables e below (s₁.setTop (mkF m 0 #[.val (.int p0)] [])) _
    refine XS.iloadN X0.here hx rfl (hb hby d1_0) rfl ?_
    show Steps p.tables e below (s₁.setTop (mkF m 1 #[.val (.int p0)] [(.int p0)])) _
    refine XS.ifYes X0.here hx rfl (pc0 := 1) (pc' := 8) rfl (hb hby d1_1) rfl ((if0 _ _).trans (feq ha0).2) (by decide) (by decide) ?_
    show Steps p.tables e below (s₁.setTop (mkF m 8 #[.val (.int p0)] [])) _
    refine XS.iloadN X0.here hx rfl (hb hby d1_8) rfl ?_
    show Steps p.tables e below (s₁.setTop (mkF m 9 #[.val (.int p0)] [(.int p0)])) _
    refine XS.iconst X0.here hx rfl (hb hby d1_9) ?_
    show Steps p.tables e below (s₁.setTop (mkF m 10 #[.val (.int p0)] [(.int (1 : Int32)), (.int p0)])) _
    refine XS.icmpYes X0.here hx rfl (pc0 := 10) (pc' := 17) rfl (hb hby d1_10) rfl (feq ha1).2 (by decide) (by decide) ?_
    show Steps p.tables e below (s₁.setTop (mkF m 17 #[.val (.int p0)] [])) _
    refine XS.iloadN X0.here hx rfl (hb hby d1_17) rfl ?_
    show Steps p.tables e below (s₁.setTop (mkF m 18 #[.val (.int p0)] [(.int p0)])) _
    refine XS.iconst X0.here hx rfl (hb hby d1_18) ?_
    show Steps p.tables e below (s₁.setTop (mkF m 19 #[.val (.int p0)] [(.int (2 : Int32)), (.int p0)])) _
    refine XS.icmpNo X0.here hx rfl (hb hby d1_19) rfl (teq hbb).2 ?_
    show Steps p.tables e below (s₁.setTop (mkF m 22 #[.val (.int p0)] [])) _
    refine st101 _ ?_
    exact kt
  refine own_go hgo102 ?_
  exact own_retA X101 hx Bd.returns rfl rfl Bd.notSynchronized (hb hby d1_25) (by decide) (by decide) (by rw [e101]; exact ⟨(by rfl), N0, rfl⟩)
theorem d1_26 : decode method_2_code 26 = .ok (.iload_n 0, 1) := by decide +kernel
theorem d1_27 : decode method_2_code 27 = .ok (.iconst 3, 1) := by decide +kernel
theorem d1_28 : decode method_2_code 28 = .ok (.if_icmp .ne 7, 3) := by decide +kernel
theorem d1_31 : decode method_2_code 31 = .ok (.getstatic 19, 3) := by decide +kernel
theorem d1_34 : decode method_2_code 34 = .ok (.areturn, 1) := by decide +kernel
theorem ef_1_3 (m : MethodId) (p0 : Int32) : entryFrame m #[(.int p0)] 1 = mkF m 0 #[.val (.int p0)] [] := by (first | (simp [entryFrame, mkF, argsToLocals, Value.category]; done) | rfl)
def Q1_3 (Z : State) (p0 : Int32) (u1 : Addr) (h0 : Heap) (n0 : Nat) (v : Option Value) (h : Heap) (L : List Loc) : Prop := v = some (.ref u1) ∧ Fr n0 L ∧ h = h0
set_option maxRecDepth 65536 in
set_option maxHeartbeats 40000000 in
theorem rm1_3 (l : Launch) (Z : State) (a0 : Array Value) (hw : ∀ d ∈ tables_1, d.before a0 Z = true) (ws : List Jvm.Cond) (p0 : Int32) (u1 : Addr) (h0 : Heap) (n0 : Nat) (Z0 : n0 ≤ h0.size) (ha0 : ¬ (p0 = (0 : Int32))) (ha1 : ¬ (p0 = (1 : Int32))) (ha2 : ¬ (p0 = (2 : Int32))) (hbb : p0 = (3 : Int32)) (S_DATATYPE : Sta Z h0 "com/example/muset/muset/sparql/BuiltInCall$BuiltIn" "DATATYPE" "Lcom/example/muset/muset/sparql/BuiltInCall$BuiltIn;" (.ref u1)) :
    MetFree l (⟨"com/example/muset/muset/sparql/BuiltInTakesPinLaw", "pick", "(I)Lcom/example/muset/muset/sparql/BuiltInCall$BuiltIn;"⟩ : MethodName) (head1 (Jvm.Cond.code (⟨"com/example/muset/muset/sparql/BuiltInTakesPinLaw", "pick", "(I)Lcom/example/muset/muset/sparql/BuiltInCall$BuiltIn;"⟩ : MethodName) method_2_code 1 (some (.object "com/example/muset/muset/sparql/BuiltInCall$BuiltIn")) :: ws) ({ frames := 0, cells := 0, slots := 0, locals := 0 } : Room)) (fun a U => a = #[(.int p0)] ∧ Z.Warmed39 U.vm ∧ U.heap = h0) (fun _ _ _ _ _ => True) (fun _ U o U' => ∃ v L, o = .returned v ∧ Q1_3 Z p0 u1 h0 n0 v U'.heap L ∧ FrameEnd U o U' L ({ frames := 0, cells := 0, slots := 0, locals := 0 } : Room).cells ({ frames := 0, cells := 0, slots := 0, locals := 0 } : Room).slots) := by
  refine MetFree.of_bodySF (plainFor_of_name pn0) hisR ?_
  intro p e s m args below meth c s₁ Bd hml0 hP hK
  obtain ⟨rfl, hZ, hh⟩ := hP
  have hx := Bd.exec
  have hby := Bd.bytes
  have hml : c.maxLocals = 1 := hml0
  have hown : s.vm.findClass "com/example/muset/muset/sparql/BuiltInTakesPinLaw" = some m.cls := findClass_of_methodNamed Bd.named
  have hnm := (name_of_methodNamed Bd.named Bd.method).1
  have X0 : Stand p l e ({ frames := 0, cells := 0, slots := 0, locals := 0 } : Room) s m #[(.int p0)] below meth c s₁ [] 0 0 := Stand.of_body Bd
  have e0 : s₁.heap = h0 := by rw [← hh, Bd.state]; rfl
  have N0 := Fr.nil n0
  have K0 : Keep h0 h0 [] := Keep.refl h0 _
  show own_Go p e below s (Q1_3 Z p0 u1 h0 n0) ({ frames := 0, cells := 0, slots := 0, locals := 0 } : Room).cells ({ frames := 0, cells := 0, slots := 0, locals := 0 } : Room).slots (s₁.setTop (entryFrame m #[(.int p0)] 1))
  refine own_go (fun t k => castTop (ef_1_3 m p0) k) ?_
  obtain ⟨T101, X101, e101, st101⟩ := getS2 X0 hx hZ hown (host := "") (Or.inl (hw _ (List.mem_of_getElem? (i := 28) rfl))) Via.refl e0 S_DATATYPE (g := (mkF m 31 #[.val (.int p0)] [])) rfl (hb hby d1_31)
  have hgo102 : ∀ t, Steps p.tables e below (T101.setTop (mkF m 34 #[.val (.int p0)] [(.ref u1)])) t → Steps p.tables e below (s₁.setTop (mkF m 0 #[.val (.int p0)] [])) t := by
    intro t kt
    show Steps p.tables e below (s₁.setTop (mkF m 0 #[.val (.int p0)] [])) _
    refine XS.iloadN X0.here hx rfl (hb hby d1_0) rfl ?_
    show Steps p.tables e below (s₁.setTop (mkF m 1 #[.val (.int p0)] [(.int p0)])) _
    refine XS.ifYes X0.here hx rfl (pc0 := 1) (pc' := 8) rfl (hb hby d1_1) rfl ((if0 _ _).trans (feq ha0).2) (by decide) (by decide) ?_
    show Steps p.tables e below (s₁.setTop (mkF m 8 #[.val (.int p0)] [])) _
    refine XS.iloadN X0.here hx rfl (hb hby d1_8) rfl ?_
    show Steps p.tables e below (s₁.setTop (mkF m 9 #[.val (.int p0)] [(.int p0)])) _
    refine XS.iconst X0.here hx rfl (hb hby d1_9) ?_
    show Steps p.tables e below (s₁.setTop (mkF m 10 #[.val (.int p0)] [(.int (1 : Int32)), (.int p0)])) _
    refine XS.icmpYes X0.here hx rfl (pc0 := 10) (pc' := 17) rfl (hb hby d1_10) rfl (feq ha1).2 (by decide) (by decide) ?_
    show Steps p.tables e below (s₁.setTop (mkF m 17 #[.val (.int p0)] [])) _
    refine XS.iloadN X0.here hx rfl (hb hby d1_17) rfl ?_
    show Steps p.tables e below (s₁.setTop (mkF m 18 #[.val (.int p0)] [(.int p0)])) _
    refine XS.iconst X0.here hx rfl (hb hby d1_18) ?_
    show Steps p.tables e below (s₁.setTop (mkF m 19 #[.val (.int p0)] [(.int (2 : Int32)), (.int p0)])) _
    refine XS.icmpYes X0.here hx rfl (pc0 := 19) (pc' := 26) rfl (hb hby d1_19) rfl (feq ha2).2 (by decide) (by decide) ?_
    show Steps p.tables e below (s₁.setTop (mkF m 26 #[.val (.int p0)] [])) _
    refine XS.iloadN X0.here hx rfl (hb hby d1_26) rfl ?_
    show Steps p.tables e below (s₁.setTop (mkF m 27 #[.val (.int p0)] [(.int p0)])) _
    refine XS.iconst X0.here hx rfl (hb hby d1_27) ?_
    show Steps p.tables e below (s₁.setTop (mkF m 28 #[.val (.int p0)] [(.int (3 : Int32)), (.int p0)])) _
    refine XS.icmpNo X0.here hx rfl (hb hby d1_28) rfl (teq hbb).2 ?_
    show Steps p.tables e below (s₁.setTop (mkF m 31 #[.val (.int p0)] [])) _
    refine st101 _ ?_
    exact kt
  refine own_go hgo102 ?_
  exact own_retA X101 hx Bd.returns rfl rfl Bd.notSynchronized (hb hby d1_34) (by decide) (by decide) (by rw [e101]; exact ⟨(by rfl), N0, rfl⟩)
theorem d1_35 : decode method_2_code 35 = .ok (.iload_n 0, 1) := by decide +kernel
theorem d1_36 : decode method_2_code 36 = .ok (.iconst 4, 1) := by decide +kernel
theorem d1_37 : decode method_2_code 37 = .ok (.if_icmp .ne 7, 3) := by decide +kernel
theorem d1_40 : decode method_2_code 40 = .ok (.getstatic 22, 3) := by decide +kernel
theorem d1_43 : decode method_2_code 43 = .ok (.areturn, 1) := by decide +kernel
theorem ef_1_4 (m : MethodId) (p0 : Int32) : entryFrame m #[(.int p0)] 1 = mkF m 0 #[.val (.int p0)] [] := by (first | (simp [entryFrame, mkF, argsToLocals, Value.category]; done) | rfl)
def Q1_4 (Z : State) (p0 : Int32) (u1 : Addr) (h0 : Heap) (n0 : Nat) (v : Option Value) (h : Heap) (L : List Loc) : Prop := v = some (.ref u1) ∧ Fr n0 L ∧ h = h0
set_option maxRecDepth 65536 in
set_option maxHeartbeats 40000000 in
theorem rm1_4 (l : Launch) (Z : State) (a0 : Array Value) (hw : ∀ d ∈ tables_1, d.before a0 Z = true) (ws : List Jvm.Cond) (p0 : Int32) (u1 : Addr) (h0 : Heap) (n0 : Nat) (Z0 : n0 ≤ h0.size) (ha0 : ¬ (p0 = (0 : Int32))) (ha1 : ¬ (p0 = (1 : Int32))) (ha2 : ¬ (p0 = (2 : Int32))) (ha3 : ¬ (p0 = (3 : Int32))) (hbb : p0 = (4 : Int32)) (S_SAME_TERM : Sta Z h0 "com/example/muset/muset/sparql/BuiltInCall$BuiltIn" "SAME_TERM" "Lcom/example/muset/muset/sparql/BuiltInCall$BuiltIn;" (.ref u1)) :
    MetFree l (⟨"com/example/muset/muset/sparql/BuiltInTakesPinLaw", "pick", "(I)Lcom/example/muset/muset/sparql/BuiltInCall$BuiltIn;"⟩ : MethodName) (head1 (Jvm.Cond.code (⟨"com/example/muset/muset/sparql/BuiltInTakesPinLaw", "pick", "(I)Lcom/example/muset/muset/sparql/BuiltInCall$BuiltIn;"⟩ : MethodName) method_2_code 1 (some (.object "com/example/muset/muset/sparql/BuiltInCall$BuiltIn")) :: ws) ({ frames := 0, cells := 0, slots := 0, locals := 0 } : Room)) (fun a U => a = #[(.int p0)] ∧ Z.Warmed39 U.vm ∧ U.heap = h0) (fun _ _ _ _ _ => True) (fun _ U o U' => ∃ v L, o = .returned v ∧ Q1_4 Z p0 u1 h0 n0 v U'.heap L ∧ FrameEnd U o U' L ({ frames := 0, cells := 0, slots := 0, locals := 0 } : Room).cells ({ frames := 0, cells := 0, slots := 0, locals := 0 } : Room).slots) := by
  refine MetFree.of_bodySF (plainFor_of_name pn0) hisR ?_
  intro p e s m args below meth c s₁ Bd hml0 hP hK
  obtain ⟨rfl, hZ, hh⟩ := hP
  have hx := Bd.exec
  have hby := Bd.bytes
  have hml : c.maxLocals = 1 := hml0
  have hown : s.vm.findClass "com/example/muset/muset/sparql/BuiltInTakesPinLaw" = some m.cls := findClass_of_methodNamed Bd.named
  have hnm := (name_of_methodNamed Bd.named Bd.method).1
  have X0 : Stand p l e ({ frames := 0, cells := 0, slots := 0, locals := 0 } : Room) s m #[(.int p0)] below meth c s₁ [] 0 0 := Stand.of_body Bd
  have e0 : s₁.heap = h0 := by rw [← hh, Bd.state]; rfl
  have N0 := Fr.nil n0
  have K0 : Keep h0 h0 [] := Keep.refl h0 _
  show own_Go p e below s (Q1_4 Z p0 u1 h0 n0) ({ frames := 0, cells := 0, slots := 0, locals := 0 } : Room).cells ({ frames := 0, cells := 0, slots := 0, locals := 0 } : Room).slots (s₁.setTop (entryFrame m #[(.int p0)] 1))
  refine own_go (fun t k => castTop (ef_1_4 m p0) k) ?_
  obtain ⟨T101, X101, e101, st101⟩ := getS2 X0 hx hZ hown (host := "") (Or.inl (hw _ (List.mem_of_getElem? (i := 22) rfl))) Via.refl e0 S_SAME_TERM (g := (mkF m 40 #[.val (.int p0)] [])) rfl (hb hby d1_40)
  have hgo102 : ∀ t, Steps p.tables e below (T101.setTop (mkF m 43 #[.val (.int p0)] [(.ref u1)])) t → Steps p.tables e below (s₁.setTop (mkF m 0 #[.val (.int p0)] [])) t := by
    intro t kt
    show Steps p.tables e below (s₁.setTop (mkF m 0 #[.val (.int p0)] [])) _
    refine XS.iloadN X0.here hx rfl (hb hby d1_0) rfl ?_
    show Steps p.tables e below (s₁.setTop (mkF m 1 #[.val (.int p0)] [(.int p0)])) _
    refine XS.ifYes X0.here hx rfl (pc0 := 1) (pc' := 8) rfl (hb hby d1_1) rfl ((if0 _ _).trans (feq ha0).2) (by decide) (by decide) ?_
    show Steps p.tables e below (s₁.setTop (mkF m 8 #[.val (.int p0)] [])) _
    refine XS.iloadN X0.here hx rfl (hb hby d1_8) rfl ?_
    show Steps p.tables e below (s₁.setTop (mkF m 9 #[.val (.int p0)] [(.int p0)])) _
    refine XS.iconst X0.here hx rfl (hb hby d1_9) ?_
    show Steps p.tables e below (s₁.setTop (mkF m 10 #[.val (.int p0)] [(.int (1 : Int32)), (.int p0)])) _
    refine XS.icmpYes X0.here hx rfl (pc0 := 10) (pc' := 17) rfl (hb hby d1_10) rfl (feq ha1).2 (by decide) (by decide) ?_
    show Steps p.tables e below (s₁.setTop (mkF m 17 #[.val (.int p0)] [])) _
    refine XS.iloadN X0.here hx rfl (hb hby d1_17) rfl ?_
    show Steps p.tables e below (s₁.setTop (mkF m 18 #[.val (.int p0)] [(.int p0)])) _
    refine XS.iconst X0.here hx rfl (hb hby d1_18) ?_
    show Steps p.tables e below (s₁.setTop (mkF m 19 #[.val (.int p0)] [(.int (2 : Int32)), (.int p0)])) _
    refine XS.icmpYes X0.here hx rfl (pc0 := 19) (pc' := 26) rfl (hb hby d1_19) rfl (feq ha2).2 (by decide) (by decide) ?_
    show Steps p.tables e below (s₁.setTop (mkF m 26 #[.val (.int p0)] [])) _
    refine XS.iloadN X0.here hx rfl (hb hby d1_26) rfl ?_
    show Steps p.tables e below (s₁.setTop (mkF m 27 #[.val (.int p0)] [(.int p0)])) _
    refine XS.iconst X0.here hx rfl (hb hby d1_27) ?_
    show Steps p.tables e below (s₁.setTop (mkF m 28 #[.val (.int p0)] [(.int (3 : Int32)), (.int p0)])) _
    refine XS.icmpYes X0.here hx rfl (pc0 := 28) (pc' := 35) rfl (hb hby d1_28) rfl (feq ha3).2 (by decide) (by decide) ?_
    show Steps p.tables e below (s₁.setTop (mkF m 35 #[.val (.int p0)] [])) _
    refine XS.iloadN X0.here hx rfl (hb hby d1_35) rfl ?_
    show Steps p.tables e below (s₁.setTop (mkF m 36 #[.val (.int p0)] [(.int p0)])) _
    refine XS.iconst X0.here hx rfl (hb hby d1_36) ?_
    show Steps p.tables e below (s₁.setTop (mkF m 37 #[.val (.int p0)] [(.int (4 : Int32)), (.int p0)])) _
    refine XS.icmpNo X0.here hx rfl (hb hby d1_37) rfl (teq hbb).2 ?_
    show Steps p.tables e below (s₁.setTop (mkF m 40 #[.val (.int p0)] [])) _
    refine st101 _ ?_
    exact kt
  refine own_go hgo102 ?_
  exact own_retA X101 hx Bd.returns rfl rfl Bd.notSynchronized (hb hby d1_43) (by decide) (by decide) (by rw [e101]; exact ⟨(by rfl), N0, rfl⟩)
theorem d1_44 : decode method_2_code 44 = .ok (.iload_n 0, 1) := by decide +kernel
theorem d1_45 : decode method_2_code 45 = .ok (.iconst 5, 1) := by decide +kernel
theorem d1_46 : decode method_2_code 46 = .ok (.if_icmp .ne 7, 3) := by decide +kernel
theorem d1_49 : decode method_2_code 49 = .ok (.getstatic 25, 3) := by decide +kernel
theorem d1_52 : decode method_2_code 52 = .ok (.areturn, 1) := by decide +kernel
theorem ef_1_5 (m : MethodId) (p0 : Int32) : entryFrame m #[(.int p0)] 1 = mkF m 0 #[.val (.int p0)] [] := by (first | (simp [entryFrame, mkF, argsToLocals, Value.category]; done) | rfl)
def Q1_5 (Z : State) (p0 : Int32) (u1 : Addr) (h0 : Heap) (n0 : Nat) (v : Option Value) (h : Heap) (L : List Loc) : Prop := v = some (.ref u1) ∧ Fr n0 L ∧ h = h0
set_option maxRecDepth 65536 in
set_option maxHeartbeats 40000000 in
theorem rm1_5 (l : Launch) (Z : State) (a0 : Array Value) (hw : ∀ d ∈ tables_1, d.before a0 Z = true) (ws : List Jvm.Cond) (p0 : Int32) (u1 : Addr) (h0 : Heap) (n0 : Nat) (Z0 : n0 ≤ h0.size) (ha0 : ¬ (p0 = (0 : Int32))) (ha1 : ¬ (p0 = (1 : Int32))) (ha2 : ¬ (p0 = (2 : Int32))) (ha3 : ¬ (p0 = (3 : Int32))) (ha4 : ¬ (p0 = (4 : Int32))) (hbb : p0 = (5 : Int32)) (S_IS_IRI : Sta Z h0 "com/example/muset/muset/sparql/BuiltInCall$BuiltIn" "IS_IRI" "Lcom/example/muset/muset/sparql/BuiltInCall$BuiltIn;" (.ref u1)) :
    MetFree l (⟨"com/example/muset/muset/sparql/BuiltInTakesPinLaw", "pick", "(I)Lcom/example/muset/muset/sparql/BuiltInCall$BuiltIn;"⟩ : MethodName) (head1 (Jvm.Cond.code (⟨"com/example/muset/muset/sparql/BuiltInTakesPinLaw", "pick", "(I)Lcom/example/muset/muset/sparql/BuiltInCall$BuiltIn;"⟩ : MethodName) method_2_code 1 (some (.object "com/example/muset/muset/sparql/BuiltInCall$BuiltIn")) :: ws) ({ frames := 0, cells := 0, slots := 0, locals := 0 } : Room)) (fun a U => a = #[(.int p0)] ∧ Z.Warmed39 U.vm ∧ U.heap = h0) (fun _ _ _ _ _ => True) (fun _ U o U' => ∃ v L, o = .returned v ∧ Q1_5 Z p0 u1 h0 n0 v U'.heap L ∧ FrameEnd U o U' L ({ frames := 0, cells := 0, slots := 0, locals := 0 } : Room).cells ({ frames := 0, cells := 0, slots := 0, locals := 0 } : Room).slots) := by
  refine MetFree.of_bodySF (plainFor_of_name pn0) hisR ?_
  intro p e s m args below meth c s₁ Bd hml0 hP hK
  obtain ⟨rfl, hZ, hh⟩ := hP
  have hx := Bd.exec
  have hby := Bd.bytes
  have hml : c.maxLocals = 1 := hml0
  have hown : s.vm.findClass "com/example/muset/muset/sparql/BuiltInTakesPinLaw" = some m.cls := findClass_of_methodNamed Bd.named
  have hnm := (name_of_methodNamed Bd.named Bd.method).1
  have X0 : Stand p l e ({ frames := 0, cells := 0, slots := 0, locals := 0 } : Room) s m #[(.int p0)] below meth c s₁ [] 0 0 := Stand.of_body Bd
  have e0 : s₁.heap = h0 := by rw [← hh, Bd.state]; rfl
  have N0 := Fr.nil n0
  have K0 : Keep h0 h0 [] := Keep.refl h0 _
  show own_Go p e below s (Q1_5 Z p0 u1 h0 n0) ({ frames := 0, cells := 0, slots := 0, locals := 0 } : Room).cells ({ frames := 0, cells := 0, slots := 0, locals := 0 } : Room).slots (s₁.setTop (entryFrame m #[(.int p0)] 1))
  refine own_go (fun t k => castTop (ef_1_5 m p0) k) ?_
  obtain ⟨T101, X101, e101, st101⟩ := getS2 X0 hx hZ hown (host := "") (Or.inl (hw _ (List.mem_of_getElem? (i := 24) rfl))) Via.refl e0 S_IS_IRI (g := (mkF m 49 #[.val (.int p0)] [])) rfl (hb hby d1_49)
  have hgo102 : ∀ t, Steps p.tables e below (T101.setTop (mkF m 52 #[.val (.int p0)] [(.ref u1)])) t → Steps p.tables e below (s₁.setTop (mkF m 0 #[.val (.int p0)] [])) t := by
    intro t kt
    show Steps p.tables e below (s₁.setTop (mkF m 0 #[.val (.int p0)] [])) _
    refine XS.iloadN X0.here hx rfl (hb hby d1_0) rfl ?_
    show Steps p.tables e below (s₁.setTop (mkF m 1 #[.val (.int p0)] [(.int p0)])) _
    refine XS.ifYes X0.here hx rfl (pc0 := 1) (pc' := 8) rfl (hb hby d1_1) rfl ((if0 _ _).trans (feq ha0).2) (by decide) (by decide) ?_
    show Steps p.tables e below (s₁.setTop (mkF m 8 #[.val (.int p0)] [])) _
    refine XS.iloadN X0.here hx rfl (hb hby d1_8) rfl ?_
    show Steps p.tables e below (s₁.setTop (mkF m 9 #[.val (.int p0)] [(.int p0)])) _
    refine XS.iconst X0.here hx rfl (hb hby d1_9) ?_
    show Steps p.tables e below (s₁.setTop (mkF m 10 #[.val (.int p0)] [(.int (1 : Int32)), (.int p0)])) _
    refine XS.icmpYes X0.here hx rfl (pc0 := 10) (pc' := 17) rfl (hb hby d1_10) rfl (feq ha1).2 (by decide) (by decide) ?_
    show Steps p.tables e below (s₁.setTop (mkF m 17 #[.val (.int p0)] [])) _
    refine XS.iloadN X0.here hx rfl (hb hby d1_17) rfl ?_
    show Steps p.tables e below (s₁.setTop (mkF m 18 #[.val (.int p0)] [(.int p0)])) _
    refine XS.iconst X0.here hx rfl (hb hby d1_18) ?_
    show Steps p.tables e below (s₁.setTop (mkF m 19 #[.val (.int p0)] [(.int (2 : Int32)), (.int p0)])) _
    refine XS.icmpYes X0.here hx rfl (pc0 := 19) (pc' := 26) rfl (hb hby d1_19) rfl (feq ha2).2 (by decide) (by decide) ?_
    show Steps p.tables e below (s₁.setTop (mkF m 26 #[.val (.int p0)] [])) _
    refine XS.iloadN X0.here hx rfl (hb hby d1_26) rfl ?_
    show Steps p.tables e below (s₁.setTop (mkF m 27 #[.val (.int p0)] [(.int p0)])) _
    refine XS.iconst X0.here hx rfl (hb hby d1_27) ?_
    show Steps p.tables e below (s₁.setTop (mkF m 28 #[.val (.int p0)] [(.int (3 : Int32)), (.int p0)])) _
    refine XS.icmpYes X0.here hx rfl (pc0 := 28) (pc' := 35) rfl (hb hby d1_28) rfl (feq ha3).2 (by decide) (by decide) ?_
    show Steps p.tables e below (s₁.setTop (mkF m 35 #[.val (.int p0)] [])) _
    refine XS.iloadN X0.here hx rfl (hb hby d1_35) rfl ?_
    show Steps p.tables e below (s₁.setTop (mkF m 36 #[.val (.int p0)] [(.int p0)])) _
    refine XS.iconst X0.here hx rfl (hb hby d1_36) ?_
    show Steps p.tables e below (s₁.setTop (mkF m 37 #[.val (.int p0)] [(.int (4 : Int32)), (.int p0)])) _
    refine XS.icmpYes X0.here hx rfl (pc0 := 37) (pc' := 44) rfl (hb hby d1_37) rfl (feq ha4).2 (by decide) (by decide) ?_
    show Steps p.tables e below (s₁.setTop (mkF m 44 #[.val (.int p0)] [])) _
    refine XS.iloadN X0.here hx rfl (hb hby d1_44) rfl ?_
    show Steps p.tables e below (s₁.setTop (mkF m 45 #[.val (.int p0)] [(.int p0)])) _
    refine XS.iconst X0.here hx rfl (hb hby d1_45) ?_
    show Steps p.tables e below (s₁.setTop (mkF m 46 #[.val (.int p0)] [(.int (5 : Int32)), (.int p0)])) _
    refine XS.icmpNo X0.here hx rfl (hb hby d1_46) rfl (teq hbb).2 ?_
    show Steps p.tables e below (s₁.setTop (mkF m 49 #[.val (.int p0)] [])) _
    refine st101 _ ?_
    exact kt
  refine own_go hgo102 ?_
  exact own_retA X101 hx Bd.returns rfl rfl Bd.notSynchronized (hb hby d1_52) (by decide) (by decide) (by rw [e101]; exact ⟨(by rfl), N0, rfl⟩)
theorem d1_53 : decode method_2_code 53 = .ok (.iload_n 0, 1) := by decide +kernel
theorem d1_54 : decode method_2_code 54 = .ok (.bipush 6, 2) := by decide +kernel
theorem d1_56 : decode method_2_code 56 = .ok (.if_icmp .ne 7, 3) := by decide +kernel
theorem d1_59 : decode method_2_code 59 = .ok (.getstatic 28, 3) := by decide +kernel
theorem d1_62 : decode method_2_code 62 = .ok (.areturn, 1) := by decide +kernel
theorem ef_1_6 (m : MethodId) (p0 : Int32) : entryFrame m #[(.int p0)] 1 = mkF m 0 #[.val (.int p0)] [] := by (first | (simp [entryFrame, mkF, argsToLocals, Value.category]; done) | rfl)
def Q1_6 (Z : State) (p0 : Int32) (u1 : Addr) (h0 : Heap) (n0 : Nat) (v : Option Value) (h : Heap) (L : List Loc) : Prop := v = some (.ref u1) ∧ Fr n0 L ∧ h = h0
set_option maxRecDepth 65536 in
set_option maxHeartbeats 40000000 in
theorem rm1_6 (l : Launch) (Z : State) (a0 : Array Value) (hw : ∀ d ∈ tables_1, d.before a0 Z = true) (ws : List Jvm.Cond) (p0 : Int32) (u1 : Addr) (h0 : Heap) (n0 : Nat) (Z0 : n0 ≤ h0.size) (ha0 : ¬ (p0 = (0 : Int32))) (ha1 : ¬ (p0 = (1 : Int32))) (ha2 : ¬ (p0 = (2 : Int32))) (ha3 : ¬ (p0 = (3 : Int32))) (ha4 : ¬ (p0 = (4 : Int32))) (ha5 : ¬ (p0 = (5 : Int32))) (hbb : p0 = (6 : Int32)) (S_IS_URI : Sta Z h0 "com/example/muset/muset/sparql/BuiltInCall$BuiltIn" "IS_URI" "Lcom/example/muset/muset/sparql/BuiltInCall$BuiltIn;" (.ref u1)) :
    MetFree l (⟨"com/example/muset/muset/sparql/BuiltInTakesPinLaw", "pick", "(I)Lcom/example/muset/muset/sparql/BuiltInCall$BuiltIn;"⟩ : MethodName) (head1 (Jvm.Cond.code (⟨"com/example/muset/muset/sparql/BuiltInTakesPinLaw", "pick", "(I)Lcom/example/muset/muset/sparql/BuiltInCall$BuiltIn;"⟩ : MethodName) method_2_code 1 (some (.object "com/example/muset/muset/sparql/BuiltInCall$BuiltIn")) :: ws) ({ frames := 0, cells := 0, slots := 0, locals := 0 } : Room)) (fun a U => a = #[(.int p0)] ∧ Z.Warmed39 U.vm ∧ U.heap = h0) (fun _ _ _ _ _ => True) (fun _ U o U' => ∃ v L, o = .returned v ∧ Q1_6 Z p0 u1 h0 n0 v U'.heap L ∧ FrameEnd U o U' L ({ frames := 0, cells := 0, slots := 0, locals := 0 } : Room).cells ({ frames := 0, cells := 0, slots := 0, locals := 0 } : Room).slots) := by
  refine MetFree.of_bodySF (plainFor_of_name pn0) hisR ?_
  intro p e s m args below meth c s₁ Bd hml0 hP hK
  obtain ⟨rfl, hZ, hh⟩ := hP
  have hx := Bd.exec
  have hby := Bd.bytes
  have hml : c.maxLocals = 1 := hml0
  have hown : s.vm.findClass "com/example/muset/muset/sparql/BuiltInTakesPinLaw" = some m.cls := findClass_of_methodNamed Bd.named
  have hnm := (name_of_methodNamed Bd.named Bd.method).1
  have X0 : Stand p l e ({ frames := 0, cells := 0, slots := 0, locals := 0 } : Room) s m #[(.int p0)] below meth c s₁ [] 0 0 := Stand.of_body Bd
  have e0 : s₁.heap = h0 := by rw [← hh, Bd.state]; rfl
  have N0 := Fr.nil n0
  have K0 : Keep h0 h0 [] := Keep.refl h0 _
  show own_Go p e below s (Q1_6 Z p0 u1 h0 n0) ({ frames := 0, cells := 0, slots := 0, locals := 0 } : Room).cells ({ frames := 0, cells := 0, slots := 0, locals := 0 } : Room).slots (s₁.setTop (entryFrame m #[(.int p0)] 1))
  refine own_go (fun t k => castTop (ef_1_6 m p0) k) ?_
  obtain ⟨T101, X101, e101, st101⟩ := getS2 X0 hx hZ hown (host := "") (Or.inl (hw _ (List.mem_of_getElem? (i := 30) rfl))) Via.refl e0 S_IS_URI (g := (mkF m 59 #[.val (.int p0)] [])) rfl (hb hby d1_59)
  have hgo102 : ∀ t, Steps p.tables e below (T101.setTop (mkF m 62 #[.val (.int p0)] [(.ref u1)])) t → Steps p.tables e below (s₁.setTop (mkF m 0 #[.val (.int p0)] [])) t := by
    intro t kt
    show Steps p.tables e below (s₁.setTop (mkF m 0 #[.val (.int p0)] [])) _
    refine XS.iloadN X0.here hx rfl (hb hby d1_0) rfl ?_
    show Steps p.tables e below (s₁.setTop (mkF m 1 #[.val (.int p0)] [(.int p0)])) _
    refine XS.ifYes X0.here hx rfl (pc0 := 1) (pc' := 8) rfl (hb hby d1_1) rfl ((if0 _ _).trans (feq ha0).2) (by decide) (by decide) ?_
    show Steps p.tables e below (s₁.setTop (mkF m 8 #[.val (.int p0)] [])) _
    refine XS.iloadN X0.here hx rfl (hb hby d1_8) rfl ?_
    show Steps p.tables e below (s₁.setTop (mkF m 9 #[.val (.int p0)] [(.int p0)])) _
    refine XS.iconst X0.here hx rfl (hb hby d1_9) ?_
    show Steps p.tables e below (s₁.setTop (mkF m 10 #[.val (.int p0)] [(.int (1 : Int32)), (.int p0)])) _
    refine XS.icmpYes X0.here hx rfl (pc0 := 10) (pc' := 17) rfl (hb hby d1_10) rfl (feq ha1).2 (by decide) (by decide) ?_
    show Steps p.tables e below (s₁.setTop (mkF m 17 #[.val (.int p0)] [])) _
    refine XS.iloadN X0.here hx rfl (hb hby d1_17) rfl ?_
    show Steps p.tables e below (s₁.setTop (mkF m 18 #[.val (.int p0)] [(.int p0)])) _
    refine XS.iconst X0.here hx rfl (hb hby d1_18) ?_
    show Steps p.tables e below (s₁.setTop (mkF m 19 #[.val (.int p0)] [(.int (2 : Int32)), (.int p0)])) _
    refine XS.icmpYes X0.here hx rfl (pc0 := 19) (pc' := 26) rfl (hb hby d1_19) rfl (feq ha2).2 (by decide) (by decide) ?_
    show Steps p.tables e below (s₁.setTop (mkF m 26 #[.val (.int p0)] [])) _
    refine XS.iloadN X0.here hx rfl (hb hby d1_26) rfl ?_
    show Steps p.tables e below (s₁.setTop (mkF m 27 #[.val (.int p0)] [(.int p0)])) _
    refine XS.iconst X0.here hx rfl (hb hby d1_27) ?_
    show Steps p.tables e below (s₁.setTop (mkF m 28 #[.val (.int p0)] [(.int (3 : Int32)), (.int p0)])) _
    refine XS.icmpYes X0.here hx rfl (pc0 := 28) (pc' := 35) rfl (hb hby d1_28) rfl (feq ha3).2 (by decide) (by decide) ?_
    show Steps p.tables e below (s₁.setTop (mkF m 35 #[.val (.int p0)] [])) _
    refine XS.iloadN X0.here hx rfl (hb hby d1_35) rfl ?_
    show Steps p.tables e below (s₁.setTop (mkF m 36 #[.val (.int p0)] [(.int p0)])) _
    refine XS.iconst X0.here hx rfl (hb hby d1_36) ?_
    show Steps p.tables e below (s₁.setTop (mkF m 37 #[.val (.int p0)] [(.int (4 : Int32)), (.int p0)])) _
    refine XS.icmpYes X0.here hx rfl (pc0 := 37) (pc' := 44) rfl (hb hby d1_37) rfl (feq ha4).2 (by decide) (by decide) ?_
    show Steps p.tables e below (s₁.setTop (mkF m 44 #[.val (.int p0)] [])) _
    refine XS.iloadN X0.here hx rfl (hb hby d1_44) rfl ?_
    show Steps p.tables e below (s₁.setTop (mkF m 45 #[.val (.int p0)] [(.int p0)])) _
    refine XS.iconst X0.here hx rfl (hb hby d1_45) ?_
    show Steps p.tables e below (s₁.setTop (mkF m 46 #[.val (.int p0)] [(.int (5 : Int32)), (.int p0)])) _
    refine XS.icmpYes X0.here hx rfl (pc0 := 46) (pc' := 53) rfl (hb hby d1_46) rfl (feq ha5).2 (by decide) (by decide) ?_
    show Steps p.tables e below (s₁.setTop (mkF m 53 #[.val (.int p0)] [])) _
    refine XS.iloadN X0.here hx rfl (hb hby d1_53) rfl ?_
    show Steps p.tables e below (s₁.setTop (mkF m 54 #[.val (.int p0)] [(.int p0)])) _
    refine XS.bipush X0.here hx rfl (hb hby d1_54) ?_
    show Steps p.tables e below (s₁.setTop (mkF m 56 #[.val (.int p0)] [(.int (6 : Int32)), (.int p0)])) _
    refine XS.icmpNo X0.here hx rfl (hb hby d1_56) rfl (teq hbb).2 ?_
    show Steps p.tables e below (s₁.setTop (mkF m 59 #[.val (.int p0)] [])) _
    refine st101 _ ?_
    exact kt
  refine own_go hgo102 ?_
  exact own_retA X101 hx Bd.returns rfl rfl Bd.notSynchronized (hb hby d1_62) (by decide) (by decide) (by rw [e101]; exact ⟨(by rfl), N0, rfl⟩)
theorem d1_63 : decode method_2_code 63 = .ok (.iload_n 0, 1) := by decide +kernel
theorem d1_64 : decode method_2_code 64 = .ok (.bipush 7, 2) := by decide +kernel
theorem d1_66 : decode method_2_code 66 = .ok (.if_icmp .ne 7, 3) := by decide +kernel
theorem d1_69 : decode method_2_code 69 = .ok (.getstatic 31, 3) := by decide +kernel
theorem d1_72 : decode method_2_code 72 = .ok (.areturn, 1) := by decide +kernel
theorem ef_1_7 (m : MethodId) (p0 : Int32) : entryFrame m #[(.int p0)] 1 = mkF m 0 #[.val (.int p0)] [] := by (first | (simp [entryFrame, mkF, argsToLocals, Value.category]; done) | rfl)
def Q1_7 (Z : State) (p0 : Int32) (u1 : Addr) (h0 : Heap) (n0 : Nat) (v : Option Value) (h : Heap) (L : List Loc) : Prop := v = some (.ref u1) ∧ Fr n0 L ∧ h = h0
set_option maxRecDepth 65536 in
set_option maxHeartbeats 40000000 in
theorem rm1_7 (l : Launch) (Z : State) (a0 : Array Value) (hw : ∀ d ∈ tables_1, d.before a0 Z = true) (ws : List Jvm.Cond) (p0 : Int32) (u1 : Addr) (h0 : Heap) (n0 : Nat) (Z0 : n0 ≤ h0.size) (ha0 : ¬ (p0 = (0 : Int32))) (ha1 : ¬ (p0 = (1 : Int32))) (ha2 : ¬ (p0 = (2 : Int32))) (ha3 : ¬ (p0 = (3 : Int32))) (ha4 : ¬ (p0 = (4 : Int32))) (ha5 : ¬ (p0 = (5 : Int32))) (ha6 : ¬ (p0 = (6 : Int32))) (hbb : p0 = (7 : Int32)) (S_IS_BLANK : Sta Z h0 "com/example/muset/muset/sparql/BuiltInCall$BuiltIn" "IS_BLANK" "Lcom/example/muset/muset/sparql/BuiltInCall$BuiltIn;" (.ref u1)) :
    MetFree l (⟨"com/example/muset/muset/sparql/BuiltInTakesPinLaw", "pick", "(I)Lcom/example/muset/muset/sparql/BuiltInCall$BuiltIn;"⟩ : MethodName) (head1 (Jvm.Cond.code (⟨"com/example/muset/muset/sparql/BuiltInTakesPinLaw", "pick", "(I)Lcom/example/muset/muset/sparql/BuiltInCall$BuiltIn;"⟩ : MethodName) method_2_code 1 (some (.object "com/example/muset/muset/sparql/BuiltInCall$BuiltIn")) :: ws) ({ frames := 0, cells := 0, slots := 0, locals := 0 } : Room)) (fun a U => a = #[(.int p0)] ∧ Z.Warmed39 U.vm ∧ U.heap = h0) (fun _ _ _ _ _ => True) (fun _ U o U' => ∃ v L, o = .returned v ∧ Q1_7 Z p0 u1 h0 n0 v U'.heap L ∧ FrameEnd U o U' L ({ frames := 0, cells := 0, slots := 0, locals := 0 } : Room).cells ({ frames := 0, cells := 0, slots := 0, locals := 0 } : Room).slots) := by
  refine MetFree.of_bodySF (plainFor_of_name pn0) hisR ?_
  intro p e s m args below meth c s₁ Bd hml0 hP hK
  obtain ⟨rfl, hZ, hh⟩ := hP
  have hx := Bd.exec
  have hby := Bd.bytes
  have hml : c.maxLocals = 1 := hml0
  have hown : s.vm.findClass "com/example/muset/muset/sparql/BuiltInTakesPinLaw" = some m.cls := findClass_of_methodNamed Bd.named
  have hnm := (name_of_methodNamed Bd.named Bd.method).1
  have X0 : Stand p l e ({ frames := 0, cells := 0, slots := 0, locals := 0 } : Room) s m #[(.int p0)] below meth c s₁ [] 0 0 := Stand.of_body Bd
  have e0 : s₁.heap = h0 := by rw [← hh, Bd.state]; rfl
  have N0 := Fr.nil n0
  have K0 : Keep h0 h0 [] := Keep.refl h0 _
  show own_Go p e below s (Q1_7 Z p0 u1 h0 n0) ({ frames := 0, cells := 0, slots := 0, locals := 0 } : Room).cells ({ frames := 0, cells := 0, slots := 0, locals := 0 } : Room).slots (s₁.setTop (entryFrame m #[(.int p0)] 1))
  refine own_go (fun t k => castTop (ef_1_7 m p0) k) ?_
  obtain ⟨T101, X101, e101, st101⟩ := getS2 X0 hx hZ hown (host := "") (Or.inl (hw _ (List.mem_of_getElem? (i := 32) rfl))) Via.refl e0 S_IS_BLANK (g := (mkF m 69 #[.val (.int p0)] [])) rfl (hb hby d1_69)
  have hgo102 : ∀ t, Steps p.tables e below (T101.setTop (mkF m 72 #[.val (.int p0)] [(.ref u1)])) t → Steps p.tables e below (s₁.setTop (mkF m 0 #[.val (.int p0)] [])) t := by
    intro t kt
    show Steps p.tables e below (s₁.setTop (mkF m 0 #[.val (.int p0)] [])) _
    refine XS.iloadN X0.here hx rfl (hb hby d1_0) rfl ?_
    show Steps p.tables e below (s₁.setTop (mkF m 1 #[.val (.int p0)] [(.int p0)])) _
    refine XS.ifYes X0.here hx rfl (pc0 := 1) (pc' := 8) rfl (hb hby d1_1) rfl ((if0 _ _).trans (feq ha0).2) (by decide) (by decide) ?_
    show Steps p.tables e below (s₁.setTop (mkF m 8 #[.val (.int p0)] [])) _
    refine XS.iloadN X0.here hx rfl (hb hby d1_8) rfl ?_
    show Steps p.tables e below (s₁.setTop (mkF m 9 #[.val (.int p0)] [(.int p0)])) _
    refine XS.iconst X0.here hx rfl (hb hby d1_9) ?_
    show Steps p.tables e below (s₁.setTop (mkF m 10 #[.val (.int p0)] [(.int (1 : Int32)), (.int p0)])) _
    refine XS.icmpYes X0.here hx rfl (pc0 := 10) (pc' := 17) rfl (hb hby d1_10) rfl (feq ha1).2 (by decide) (by decide) ?_
    show Steps p.tables e below (s₁.setTop (mkF m 17 #[.val (.int p0)] [])) _
    refine XS.iloadN X0.here hx rfl (hb hby d1_17) rfl ?_
    show Steps p.tables e below (s₁.setTop (mkF m 18 #[.val (.int p0)] [(.int p0)])) _
    refine XS.iconst X0.here hx rfl (hb hby d1_18) ?_
    show Steps p.tables e below (s₁.setTop (mkF m 19 #[.val (.int p0)] [(.int (2 : Int32)), (.int p0)])) _
    refine XS.icmpYes X0.here hx rfl (pc0 := 19) (pc' := 26) rfl (hb hby d1_19) rfl (feq ha2).2 (by decide) (by decide) ?_
    show Steps p.tables e below (s₁.setTop (mkF m 26 #[.val (.int p0)] [])) _
    refine XS.iloadN X0.here hx rfl (hb hby d1_26) rfl ?_
    show Steps p.tables e below (s₁.setTop (mkF m 27 #[.val (.int p0)] [(.int p0)])) _
    refine XS.iconst X0.here hx rfl (hb hby d1_27) ?_
    show Steps p.tables e below (s₁.setTop (mkF m 28 #[.val (.int p0)] [(.int (3 : Int32)), (.int p0)])) _
    refine XS.icmpYes X0.here hx rfl (pc0 := 28) (pc' := 35) rfl (hb hby d1_28) rfl (feq ha3).2 (by decide) (by decide) ?_
    show Steps p.tables e below (s₁.setTop (mkF m 35 #[.val (.int p0)] [])) _
    refine XS.iloadN X0.here hx rfl (hb hby d1_35) rfl ?_
    show Steps p.tables e below (s₁.setTop (mkF m 36 #[.val (.int p0)] [(.int p0)])) _
    refine XS.iconst X0.here hx rfl (hb hby d1_36) ?_
    show Steps p.tables e below (s₁.setTop (mkF m 37 #[.val (.int p0)] [(.int (4 : Int32)), (.int p0)])) _
    refine XS.icmpYes X0.here hx rfl (pc0 := 37) (pc' := 44) rfl (hb hby d1_37) rfl (feq ha4).2 (by decide) (by decide) ?_
    show Steps p.tables e below (s₁.setTop (mkF m 44 #[.val (.int p0)] [])) _
    refine XS.iloadN X0.here hx rfl (hb hby d1_44) rfl ?_
    show Steps p.tables e below (s₁.setTop (mkF m 45 #[.val (.int p0)] [(.int p0)])) _
    refine XS.iconst X0.here hx rfl (hb hby d1_45) ?_
    show Steps p.tables e below (s₁.setTop (mkF m 46 #[.val (.int p0)] [(.int (5 : Int32)), (.int p0)])) _
    refine XS.icmpYes X0.here hx rfl (pc0 := 46) (pc' := 53) rfl (hb hby d1_46) rfl (feq ha5).2 (by decide) (by decide) ?_
    show Steps p.tables e below (s₁.setTop (mkF m 53 #[.val (.int p0)] [])) _
    refine XS.iloadN X0.here hx rfl (hb hby d1_53) rfl ?_
    show Steps p.tables e below (s₁.setTop (mkF m 54 #[.val (.int p0)] [(.int p0)])) _
    refine XS.bipush X0.here hx rfl (hb hby d1_54) ?_
    show Steps p.tables e below (s₁.setTop (mkF m 56 #[.val (.int p0)] [(.int (6 : Int32)), (.int p0)])) _
    refine XS.icmpYes X0.here hx rfl (pc0 := 56) (pc' := 63) rfl (hb hby d1_56) rfl (feq ha6).2 (by decide) (by decide) ?_
    show Steps p.tables e below (s₁.setTop (mkF m 63 #[.val (.int p0)] [])) _
    refine XS.iloadN X0.here hx rfl (hb hby d1_63) rfl ?_
    show Steps p.tables e below (s₁.setTop (mkF m 64 #[.val (.int p0)] [(.int p0)])) _
    refine XS.bipush X0.here hx rfl (hb hby d1_64) ?_
    show Steps p.tables e below (s₁.setTop (mkF m 66 #[.val (.int p0)] [(.int (7 : Int32)), (.int p0)])) _
    refine XS.icmpNo X0.here hx rfl (hb hby d1_66) rfl (teq hbb).2 ?_
    show Steps p.tables e below (s₁.setTop (mkF m 69 #[.val (.int p0)] [])) _
    refine st101 _ ?_
    exact kt
  refine own_go hgo102 ?_
  exact own_retA X101 hx Bd.returns rfl rfl Bd.notSynchronized (hb hby d1_72) (by decide) (by decide) (by rw [e101]; exact ⟨(by rfl), N0, rfl⟩)
theorem d1_73 : decode method_2_code 73 = .ok (.iload_n 0, 1) := by decide +kernel
theorem d1_74 : decode method_2_code 74 = .ok (.bipush 8, 2) := by decide +kernel
theorem d1_76 : decode method_2_code 76 = .ok (.if_icmp .ne 7, 3) := by decide +kernel
theorem d1_79 : decode method_2_code 79 = .ok (.getstatic 34, 3) := by decide +kernel
theorem d1_82 : decode method_2_code 82 = .ok (.areturn, 1) := by decide +kernel
theorem ef_1_8 (m : MethodId) (p0 : Int32) : entryFrame m #[(.int p0)] 1 = mkF m 0 #[.val (.int p0)] [] := by (first | (simp [entryFrame, mkF, argsToLocals, Value.category]; done) | rfl)
def Q1_8 (Z : State) (p0 : Int32) (u1 : Addr) (h0 : Heap) (n0 : Nat) (v : Option Value) (h : Heap) (L : List Loc) : Prop := v = some (.ref u1) ∧ Fr n0 L ∧ h = h0
set_option maxRecDepth 65536 in
set_option maxHeartbeats 40000000 in
theorem rm1_8 (l : Launch) (Z : State) (a0 : Array Value) (hw : ∀ d ∈ tables_1, d.before a0 Z = true) (ws : List Jvm.Cond) (p0 : Int32) (u1 : Addr) (h0 : Heap) (n0 : Nat) (Z0 : n0 ≤ h0.size) (ha0 : ¬ (p0 = (0 : Int32))) (ha1 : ¬ (p0 = (1 : Int32))) (ha2 : ¬ (p0 = (2 : Int32))) (ha3 : ¬ (p0 = (3 : Int32))) (ha4 : ¬ (p0 = (4 : Int32))) (ha5 : ¬ (p0 = (5 : Int32))) (ha6 : ¬ (p0 = (6 : Int32))) (ha7 : ¬ (p0 = (7 : Int32))) (hbb : p0 = (8 : Int32)) (S_IS_LITERAL : Sta Z h0 "com/example/muset/muset/sparql/BuiltInCall$BuiltIn" "IS_LITERAL" "Lcom/example/muset/muset/sparql/BuiltInCall$BuiltIn;" (.ref u1)) :
    MetFree l (⟨"com/example/muset/muset/sparql/BuiltInTakesPinLaw", "pick", "(I)Lcom/example/muset/muset/sparql/BuiltInCall$BuiltIn;"⟩ : MethodName) (head1 (Jvm.Cond.code (⟨"com/example/muset/muset/sparql/BuiltInTakesPinLaw", "pick", "(I)Lcom/example/muset/muset/sparql/BuiltInCall$BuiltIn;"⟩ : MethodName) method_2_code 1 (some (.object "com/example/muset/muset/sparql/BuiltInCall$BuiltIn")) :: ws) ({ frames := 0, cells := 0, slots := 0, locals := 0 } : Room)) (fun a U => a = #[(.int p0)] ∧ Z.Warmed39 U.vm ∧ U.heap = h0) (fun _ _ _ _ _ => True) (fun _ U o U' => ∃ v L, o = .returned v ∧ Q1_8 Z p0 u1 h0 n0 v U'.heap L ∧ FrameEnd U o U' L ({ frames := 0, cells := 0, slots := 0, locals := 0 } : Room).cells ({ frames := 0, cells := 0, slots := 0, locals := 0 } : Room).slots) := by
  refine MetFree.of_bodySF (plainFor_of_name pn0) hisR ?_
  intro p e s m args below meth c s₁ Bd hml0 hP hK
  obtain ⟨rfl, hZ, hh⟩ := hP
  have hx := Bd.exec
  have hby := Bd.bytes
  have hml : c.maxLocals = 1 := hml0
  have hown : s.vm.findClass "com/example/muset/muset/sparql/BuiltInTakesPinLaw" = some m.cls := findClass_of_methodNamed Bd.named
  have hnm := (name_of_methodNamed Bd.named Bd.method).1
  have X0 : Stand p l e ({ frames := 0, cells := 0, slots := 0, locals := 0 } : Room) s m #[(.int p0)] below meth c s₁ [] 0 0 := Stand.of_body Bd
  have e0 : s₁.heap = h0 := by rw [← hh, Bd.state]; rfl
  have N0 := Fr.nil n0
  have K0 : Keep h0 h0 [] := Keep.refl h0 _
  show own_Go p e below s (Q1_8 Z p0 u1 h0 n0) ({ frames := 0, cells := 0, slots := 0, locals := 0 } : Room).cells ({ frames := 0, cells := 0, slots := 0, locals := 0 } : Room).slots (s₁.setTop (entryFrame m #[(.int p0)] 1))
  refine own_go (fun t k => castTop (ef_1_8 m p0) k) ?_
  obtain ⟨T101, X101, e101, st101⟩ := getS2 X0 hx hZ hown (host := "") (Or.inl (hw _ (List.mem_of_getElem? (i := 26) rfl))) Via.refl e0 S_IS_LITERAL (g := (mkF m 79 #[.val (.int p0)] [])) rfl (hb hby d1_79)
  have hgo102 : ∀ t, Steps p.tables e below (T101.setTop (mkF m 82 #[.val (.int p0)] [(.ref u1)])) t → Steps p.tables e below (s₁.setTop (mkF m 0 #[.val (.int p0)] [])) t := by
    intro t kt
    show Steps p.tables e below (s₁.setTop (mkF m 0 #[.val (.int p0)] [])) _
    refine XS.iloadN X0.here hx rfl (hb hby d1_0) rfl ?_
    show Steps p.tables e below (s₁.setTop (mkF m 1 #[.val (.int p0)] [(.int p0)])) _
    refine XS.ifYes X0.here hx rfl (pc0 := 1) (pc' := 8) rfl (hb hby d1_1) rfl ((if0 _ _).trans (feq ha0).2) (by decide) (by decide) ?_
    show Steps p.tables e below (s₁.setTop (mkF m 8 #[.val (.int p0)] [])) _
    refine XS.iloadN X0.here hx rfl (hb hby d1_8) rfl ?_
    show Steps p.tables e below (s₁.setTop (mkF m 9 #[.val (.int p0)] [(.int p0)])) _
    refine XS.iconst X0.here hx rfl (hb hby d1_9) ?_
    show Steps p.tables e below (s₁.setTop (mkF m 10 #[.val (.int p0)] [(.int (1 : Int32)), (.int p0)])) _
    refine XS.icmpYes X0.here hx rfl (pc0 := 10) (pc' := 17) rfl (hb hby d1_10) rfl (feq ha1).2 (by decide) (by decide) ?_
    show Steps p.tables e below (s₁.setTop (mkF m 17 #[.val (.int p0)] [])) _
    refine XS.iloadN X0.here hx rfl (hb hby d1_17) rfl ?_
    show Steps p.tables e below (s₁.setTop (mkF m 18 #[.val (.int p0)] [(.int p0)])) _
    refine XS.iconst X0.here hx rfl (hb hby d1_18) ?_
    show Steps p.tables e below (s₁.setTop (mkF m 19 #[.val (.int p0)] [(.int (2 : Int32)), (.int p0)])) _
    refine XS.icmpYes X0.here hx rfl (pc0 := 19) (pc' := 26) rfl (hb hby d1_19) rfl (feq ha2).2 (by decide) (by decide) ?_
    show Steps p.tables e below (s₁.setTop (mkF m 26 #[.val (.int p0)] [])) _
    refine XS.iloadN X0.here hx rfl (hb hby d1_26) rfl ?_
    show Steps p.tables e below (s₁.setTop (mkF m 27 #[.val (.int p0)] [(.int p0)])) _
    refine XS.iconst X0.here hx rfl (hb hby d1_27) ?_
    show Steps p.tables e below (s₁.setTop (mkF m 28 #[.val (.int p0)] [(.int (3 : Int32)), (.int p0)])) _
    refine XS.icmpYes X0.here hx rfl (pc0 := 28) (pc' := 35) rfl (hb hby d1_28) rfl (feq ha3).2 (by decide) (by decide) ?_
    show Steps p.tables e below (s₁.setTop (mkF m 35 #[.val (.int p0)] [])) _
    refine XS.iloadN X0.here hx rfl (hb hby d1_35) rfl ?_
    show Steps p.tables e below (s₁.setTop (mkF m 36 #[.val (.int p0)] [(.int p0)])) _
    refine XS.iconst X0.here hx rfl (hb hby d1_36) ?_
    show Steps p.tables e below (s₁.setTop (mkF m 37 #[.val (.int p0)] [(.int (4 : Int32)), (.int p0)])) _
    refine XS.icmpYes X0.here hx rfl (pc0 := 37) (pc' := 44) rfl (hb hby d1_37) rfl (feq ha4).2 (by decide) (by decide) ?_
    show Steps p.tables e below (s₁.setTop (mkF m 44 #[.val (.int p0)] [])) _
    refine XS.iloadN X0.here hx rfl (hb hby d1_44) rfl ?_
    show Steps p.tables e below (s₁.setTop (mkF m 45 #[.val (.int p0)] [(.int p0)])) _
    refine XS.iconst X0.here hx rfl (hb hby d1_45) ?_
    show Steps p.tables e below (s₁.setTop (mkF m 46 #[.val (.int p0)] [(.int (5 : Int32)), (.int p0)])) _
    refine XS.icmpYes X0.here hx rfl (pc0 := 46) (pc' := 53) rfl (hb hby d1_46) rfl (feq ha5).2 (by decide) (by decide) ?_
    show Steps p.tables e below (s₁.setTop (mkF m 53 #[.val (.int p0)] [])) _
    refine XS.iloadN X0.here hx rfl (hb hby d1_53) rfl ?_
    show Steps p.tables e below (s₁.setTop (mkF m 54 #[.val (.int p0)] [(.int p0)])) _
    refine XS.bipush X0.here hx rfl (hb hby d1_54) ?_
    show Steps p.tables e below (s₁.setTop (mkF m 56 #[.val (.int p0)] [(.int (6 : Int32)), (.int p0)])) _
    refine XS.icmpYes X0.here hx rfl (pc0 := 56) (pc' := 63) rfl (hb hby d1_56) rfl (feq ha6).2 (by decide) (by decide) ?_
    show Steps p.tables e below (s₁.setTop (mkF m 63 #[.val (.int p0)] [])) _
    refine XS.iloadN X0.here hx rfl (hb hby d1_63) rfl ?_
    show Steps p.tables e below (s₁.setTop (mkF m 64 #[.val (.int p0)] [(.int p0)])) _
    refine XS.bipush X0.here hx rfl (hb hby d1_64) ?_
    show Steps p.tables e below (s₁.setTop (mkF m 66 #[.val (.int p0)] [(.int (7 : Int32)), (.int p0)])) _
    refine XS.icmpYes X0.here hx rfl (pc0 := 66) (pc' := 73) rfl (hb hby d1_66) rfl (feq ha7).2 (by decide) (by decide) ?_
    show Steps p.tables e below (s₁.setTop (mkF m 73 #[.val (.int p0)] [])) _
    refine XS.iloadN X0.here hx rfl (hb hby d1_73) rfl ?_
    show Steps p.tables e below (s₁.setTop (mkF m 74 #[.val (.int p0)] [(.int p0)])) _
    refine XS.bipush X0.here hx rfl (hb hby d1_74) ?_
    show Steps p.tables e below (s₁.setTop (mkF m 76 #[.val (.int p0)] [(.int (8 : Int32)), (.int p0)])) _
    refine XS.icmpNo X0.here hx rfl (hb hby d1_76) rfl (teq hbb).2 ?_
    show Steps p.tables e below (s₁.setTop (mkF m 79 #[.val (.int p0)] [])) _
    refine st101 _ ?_
    exact kt
  refine own_go hgo102 ?_
  exact own_retA X101 hx Bd.returns rfl rfl Bd.notSynchronized (hb hby d1_82) (by decide) (by decide) (by rw [e101]; exact ⟨(by rfl), N0, rfl⟩)
theorem d1_83 : decode method_2_code 83 = .ok (.getstatic 37, 3) := by decide +kernel
theorem d1_86 : decode method_2_code 86 = .ok (.areturn, 1) := by decide +kernel
theorem ef_1_9 (m : MethodId) (p0 : Int32) : entryFrame m #[(.int p0)] 1 = mkF m 0 #[.val (.int p0)] [] := by (first | (simp [entryFrame, mkF, argsToLocals, Value.category]; done) | rfl)
def Q1_9 (Z : State) (p0 : Int32) (u1 : Addr) (h0 : Heap) (n0 : Nat) (v : Option Value) (h : Heap) (L : List Loc) : Prop := v = some (.ref u1) ∧ Fr n0 L ∧ h = h0
set_option maxRecDepth 65536 in
set_option maxHeartbeats 40000000 in
theorem rm1_9 (l : Launch) (Z : State) (a0 : Array Value) (hw : ∀ d ∈ tables_1, d.before a0 Z = true) (ws : List Jvm.Cond) (p0 : Int32) (u1 : Addr) (h0 : Heap) (n0 : Nat) (Z0 : n0 ≤ h0.size) (ha0 : ¬ (p0 = (0 : Int32))) (ha1 : ¬ (p0 = (1 : Int32))) (ha2 : ¬ (p0 = (2 : Int32))) (ha3 : ¬ (p0 = (3 : Int32))) (ha4 : ¬ (p0 = (4 : Int32))) (ha5 : ¬ (p0 = (5 : Int32))) (ha6 : ¬ (p0 = (6 : Int32))) (ha7 : ¬ (p0 = (7 : Int32))) (ha8 : ¬ (p0 = (8 : Int32))) (S_REGEX : Sta Z h0 "com/example/muset/muset/sparql/BuiltInCall$BuiltIn" "REGEX" "Lcom/example/muset/muset/sparql/BuiltInCall$BuiltIn;" (.ref u1)) :
    MetFree l (⟨"com/example/muset/muset/sparql/BuiltInTakesPinLaw", "pick", "(I)Lcom/example/muset/muset/sparql/BuiltInCall$BuiltIn;"⟩ : MethodName) (head1 (Jvm.Cond.code (⟨"com/example/muset/muset/sparql/BuiltInTakesPinLaw", "pick", "(I)Lcom/example/muset/muset/sparql/BuiltInCall$BuiltIn;"⟩ : MethodName) method_2_code 1 (some (.object "com/example/muset/muset/sparql/BuiltInCall$BuiltIn")) :: ws) ({ frames := 0, cells := 0, slots := 0, locals := 0 } : Room)) (fun a U => a = #[(.int p0)] ∧ Z.Warmed39 U.vm ∧ U.heap = h0) (fun _ _ _ _ _ => True) (fun _ U o U' => ∃ v L, o = .returned v ∧ Q1_9 Z p0 u1 h0 n0 v U'.heap L ∧ FrameEnd U o U' L ({ frames := 0, cells := 0, slots := 0, locals := 0 } : Room).cells ({ frames := 0, cells := 0, slots := 0, locals := 0 } : Room).slots) := by
  refine MetFree.of_bodySF (plainFor_of_name pn0) hisR ?_
  intro p e s m args below meth c s₁ Bd hml0 hP hK
  obtain ⟨rfl, hZ, hh⟩ := hP
  have hx := Bd.exec
  have hby := Bd.bytes
  have hml : c.maxLocals = 1 := hml0
  have hown : s.vm.findClass "com/example/muset/muset/sparql/BuiltInTakesPinLaw" = some m.cls := findClass_of_methodNamed Bd.named
  have hnm := (name_of_methodNamed Bd.named Bd.method).1
  have X0 : Stand p l e ({ frames := 0, cells := 0, slots := 0, locals := 0 } : Room) s m #[(.int p0)] below meth c s₁ [] 0 0 := Stand.of_body Bd
  have e0 : s₁.heap = h0 := by rw [← hh, Bd.state]; rfl
  have N0 := Fr.nil n0
  have K0 : Keep h0 h0 [] := Keep.refl h0 _
  show own_Go p e below s (Q1_9 Z p0 u1 h0 n0) ({ frames := 0, cells := 0, slots := 0, locals := 0 } : Room).cells ({ frames := 0, cells := 0, slots := 0, locals := 0 } : Room).slots (s₁.setTop (entryFrame m #[(.int p0)] 1))
  refine own_go (fun t k => castTop (ef_1_9 m p0) k) ?_
  obtain ⟨T101, X101, e101, st101⟩ := getS2 X0 hx hZ hown (host := "") (Or.inl (hw _ (List.mem_of_getElem? (i := 34) rfl))) Via.refl e0 S_REGEX (g := (mkF m 83 #[.val (.int p0)] [])) rfl (hb hby d1_83)
  have hgo102 : ∀ t, Steps p.tables e below (T101.setTop (mkF m 86 #[.val (.int p0)] [(.ref u1)])) t → Steps p.tables e below (s₁.setTop (mkF m 0 #[.val (.int p0)] [])) t := by
    intro t kt
    show Steps p.tables e below (s₁.setTop (mkF m 0 #[.val (.int p0)] [])) _
    refine XS.iloadN X0.here hx rfl (hb hby d1_0) rfl ?_
    show Steps p.tables e below (s₁.setTop (mkF m 1 #[.val (.int p0)] [(.int p0)])) _
    refine XS.ifYes X0.here hx rfl (pc0 := 1) (pc' := 8) rfl (hb hby d1_1) rfl ((if0 _ _).trans (feq ha0).2) (by decide) (by decide) ?_
    show Steps p.tables e below (s₁.setTop (mkF m 8 #[.val (.int p0)] [])) _
    refine XS.iloadN X0.here hx rfl (hb hby d1_8) rfl ?_
    show Steps p.tables e below (s₁.setTop (mkF m 9 #[.val (.int p0)] [(.int p0)])) _
    refine XS.iconst X0.here hx rfl (hb hby d1_9) ?_
    show Steps p.tables e below (s₁.setTop (mkF m 10 #[.val (.int p0)] [(.int (1 : Int32)), (.int p0)])) _
    refine XS.icmpYes X0.here hx rfl (pc0 := 10) (pc' := 17) rfl (hb hby d1_10) rfl (feq ha1).2 (by decide) (by decide) ?_
    show Steps p.tables e below (s₁.setTop (mkF m 17 #[.val (.int p0)] [])) _
    refine XS.iloadN X0.here hx rfl (hb hby d1_17) rfl ?_
    show Steps p.tables e below (s₁.setTop (mkF m 18 #[.val (.int p0)] [(.int p0)])) _
    refine XS.iconst X0.here hx rfl (hb hby d1_18) ?_
    show Steps p.tables e below (s₁.setTop (mkF m 19 #[.val (.int p0)] [(.int (2 : Int32)), (.int p0)])) _
    refine XS.icmpYes X0.here hx rfl (pc0 := 19) (pc' := 26) rfl (hb hby d1_19) rfl (feq ha2).2 (by decide) (by decide) ?_
    show Steps p.tables e below (s₁.setTop (mkF m 26 #[.val (.int p0)] [])) _
    refine XS.iloadN X0.here hx rfl (hb hby d1_26) rfl ?_
    show Steps p.tables e below (s₁.setTop (mkF m 27 #[.val (.int p0)] [(.int p0)])) _
    refine XS.iconst X0.here hx rfl (hb hby d1_27) ?_
    show Steps p.tables e below (s₁.setTop (mkF m 28 #[.val (.int p0)] [(.int (3 : Int32)), (.int p0)])) _
    refine XS.icmpYes X0.here hx rfl (pc0 := 28) (pc' := 35) rfl (hb hby d1_28) rfl (feq ha3).2 (by decide) (by decide) ?_
    show Steps p.tables e below (s₁.setTop (mkF m 35 #[.val (.int p0)] [])) _
    refine XS.iloadN X0.here hx rfl (hb hby d1_35) rfl ?_
    show Steps p.tables e below (s₁.setTop (mkF m 36 #[.val (.int p0)] [(.int p0)])) _
    refine XS.iconst X0.here hx rfl (hb hby d1_36) ?_
    show Steps p.tables e below (s₁.setTop (mkF m 37 #[.val (.int p0)] [(.int (4 : Int32)), (.int p0)])) _
    refine XS.icmpYes X0.here hx rfl (pc0 := 37) (pc' := 44) rfl (hb hby d1_37) rfl (feq ha4).2 (by decide) (by decide) ?_
    show Steps p.tables e below (s₁.setTop (mkF m 44 #[.val (.int p0)] [])) _
    refine XS.iloadN X0.here hx rfl (hb hby d1_44) rfl ?_
    show Steps p.tables e below (s₁.setTop (mkF m 45 #[.val (.int p0)] [(.int p0)])) _
    refine XS.iconst X0.here hx rfl (hb hby d1_45) ?_
    show Steps p.tables e below (s₁.setTop (mkF m 46 #[.val (.int p0)] [(.int (5 : Int32)), (.int p0)])) _
    refine XS.icmpYes X0.here hx rfl (pc0 := 46) (pc' := 53) rfl (hb hby d1_46) rfl (feq ha5).2 (by decide) (by decide) ?_
    show Steps p.tables e below (s₁.setTop (mkF m 53 #[.val (.int p0)] [])) _
    refine XS.iloadN X0.here hx rfl (hb hby d1_53) rfl ?_
    show Steps p.tables e below (s₁.setTop (mkF m 54 #[.val (.int p0)] [(.int p0)])) _
    refine XS.bipush X0.here hx rfl (hb hby d1_54) ?_
    show Steps p.tables e below (s₁.setTop (mkF m 56 #[.val (.int p0)] [(.int (6 : Int32)), (.int p0)])) _
    refine XS.icmpYes X0.here hx rfl (pc0 := 56) (pc' := 63) rfl (hb hby d1_56) rfl (feq ha6).2 (by decide) (by decide) ?_
    show Steps p.tables e below (s₁.setTop (mkF m 63 #[.val (.int p0)] [])) _
    refine XS.iloadN X0.here hx rfl (hb hby d1_63) rfl ?_
    show Steps p.tables e below (s₁.setTop (mkF m 64 #[.val (.int p0)] [(.int p0)])) _
    refine XS.bipush X0.here hx rfl (hb hby d1_64) ?_
    show Steps p.tables e below (s₁.setTop (mkF m 66 #[.val (.int p0)] [(.int (7 : Int32)), (.int p0)])) _
    refine XS.icmpYes X0.here hx rfl (pc0 := 66) (pc' := 73) rfl (hb hby d1_66) rfl (feq ha7).2 (by decide) (by decide) ?_
    show Steps p.tables e below (s₁.setTop (mkF m 73 #[.val (.int p0)] [])) _
    refine XS.iloadN X0.here hx rfl (hb hby d1_73) rfl ?_
    show Steps p.tables e below (s₁.setTop (mkF m 74 #[.val (.int p0)] [(.int p0)])) _
    refine XS.bipush X0.here hx rfl (hb hby d1_74) ?_
    show Steps p.tables e below (s₁.setTop (mkF m 76 #[.val (.int p0)] [(.int (8 : Int32)), (.int p0)])) _
    refine XS.icmpYes X0.here hx rfl (pc0 := 76) (pc' := 83) rfl (hb hby d1_76) rfl (feq ha8).2 (by decide) (by decide) ?_
    show Steps p.tables e below (s₁.setTop (mkF m 83 #[.val (.int p0)] [])) _
    refine st101 _ ?_
    exact kt
  refine own_go hgo102 ?_
  exact own_retA X101 hx Bd.returns rfl rfl Bd.notSynchronized (hb hby d1_86) (by decide) (by decide) (by rw [e101]; exact ⟨(by rfl), N0, rfl⟩)
theorem d2_0 : decode prog_85_method_5_code 0 = .ok (.iload_n 1, 1) := by decide +kernel
theorem d2_1 : decode prog_85_method_5_code 1 = .ok (.aload_n 0, 1) := by decide +kernel
theorem d2_2 : decode prog_85_method_5_code 2 = .ok (.getfield 57, 3) := by decide +kernel
theorem d2_5 : decode prog_85_method_5_code 5 = .ok (.if_icmp .lt 15, 3) := by decide +kernel
theorem d2_8 : decode prog_85_method_5_code 8 = .ok (.iload_n 1, 1) := by decide +kernel
theorem d2_9 : decode prog_85_method_5_code 9 = .ok (.aload_n 0, 1) := by decide +kernel
theorem d2_10 : decode prog_85_method_5_code 10 = .ok (.getfield 61, 3) := by decide +kernel
theorem d2_13 : decode prog_85_method_5_code 13 = .ok (.if_icmp .gt 7, 3) := by decide +kernel
theorem d2_16 : decode prog_85_method_5_code 16 = .ok (.iconst 1, 1) := by decide +kernel
theorem d2_17 : decode prog_85_method_5_code 17 = .ok (.goto 4, 3) := by decide +kernel
theorem d2_20 : decode prog_85_method_5_code 20 = .ok (.iconst 0, 1) := by decide +kernel
theorem d2_21 : decode prog_85_method_5_code 21 = .ok (.ireturn, 1) := by decide +kernel
theorem ef_2 (m : MethodId) (r0 : Addr) (p1 : Int32) : entryFrame m #[(.ref r0), (.int p1)] 2 = mkF m 0 #[.val (.ref r0), .val (.int p1)] [] := by (first | (simp [entryFrame, mkF, argsToLocals, Value.category]; done) | rfl)
def own_r2 (p1 : Int32) (w2 : Int32) (w3 : Int32) : Int32 := (if p1 < w2 then (0 : Int32) else (if w3 < p1 then (0 : Int32) else (1 : Int32)))
theorem own_r2_b (p1 : Int32) (w2 : Int32) (w3 : Int32) : own_r2 p1 w2 w3 = 0 ∨ own_r2 p1 w2 w3 = 1 := by unfold own_r2; exact (own_ite01 (Or.inl rfl) (own_ite01 (Or.inl rfl) (Or.inr rfl)))
theorem pn1 : plainName "com/example/muset/muset/sparql/BuiltInCall$BuiltIn" = true := by first | (simp [plainName, overriddenIn]; done) | decide +kernel
def Q2 (Z : State) (r0 : Addr) (p1 : Int32) (w2 : Int32) (w3 : Int32) (h0 : Heap) (n0 : Nat) (v : Option Value) (h : Heap) (L : List Loc) : Prop := v = some (.int (own_r2 p1 w2 w3)) ∧ Fr n0 L ∧ h = h0
set_option maxRecDepth 65536 in
set_option maxHeartbeats 40000000 in
theorem rm2 (l : Launch) (Z : State) (a0 : Array Value) (hw : ∀ d ∈ tables_1, d.before a0 Z = true) (ws : List Jvm.Cond) (r0 : Addr) (p1 : Int32) (w2 : Int32) (w3 : Int32) (h0 : Heap) (n0 : Nat) (Z0 : n0 ≤ h0.size) (F_minArguments_r0 : Fld Z h0 r0 "com/example/muset/muset/sparql/BuiltInCall$BuiltIn" "minArguments" "I" (.int w2)) (F_maxArguments_r0 : Fld Z h0 r0 "com/example/muset/muset/sparql/BuiltInCall$BuiltIn" "maxArguments" "I" (.int w3)) :
    MetFree l (⟨"com/example/muset/muset/sparql/BuiltInCall$BuiltIn", "takes", "(I)Z"⟩ : MethodName) (head1 (Jvm.Cond.code (⟨"com/example/muset/muset/sparql/BuiltInCall$BuiltIn", "takes", "(I)Z"⟩ : MethodName) prog_85_method_5_code 2 (some .boolean) :: ws) ({ frames := 0, cells := 0, slots := 0, locals := 0 } : Room)) (fun a U => a = #[(.ref r0), (.int p1)] ∧ Z.Warmed39 U.vm ∧ U.heap = h0) (fun _ _ _ _ _ => True) (fun _ U o U' => ∃ v L, o = .returned v ∧ Q2 Z r0 p1 w2 w3 h0 n0 v U'.heap L ∧ FrameEnd U o U' L ({ frames := 0, cells := 0, slots := 0, locals := 0 } : Room).cells ({ frames := 0, cells := 0, slots := 0, locals := 0 } : Room).slots) := by
  refine MetFree.of_bodySF (plainFor_of_name pn1) hisR ?_
  intro p e s m args below meth c s₁ Bd hml0 hP hK
  obtain ⟨rfl, hZ, hh⟩ := hP
  have hx := Bd.exec
  have hby := Bd.bytes
  have hml : c.maxLocals = 2 := hml0
  have hown : s.vm.findClass "com/example/muset/muset/sparql/BuiltInCall$BuiltIn" = some m.cls := findClass_of_methodNamed Bd.named
  have hnm := (name_of_methodNamed Bd.named Bd.method).1
  have X0 : Stand p l e ({ frames := 0, cells := 0, slots := 0, locals := 0 } : Room) s m #[(.ref r0), (.int p1)] below meth c s₁ [] 0 0 := Stand.of_body Bd
  have e0 : s₁.heap = h0 := by rw [← hh, Bd.state]; rfl
  have N0 := Fr.nil n0
  have K0 : Keep h0 h0 [] := Keep.refl h0 _
  show own_Go p e below s (Q2 Z r0 p1 w2 w3 h0 n0) ({ frames := 0, cells := 0, slots := 0, locals := 0 } : Room).cells ({ frames := 0, cells := 0, slots := 0, locals := 0 } : Room).slots (s₁.setTop (entryFrame m #[(.ref r0), (.int p1)] 2))
  refine own_go (fun t k => castTop (ef_2 m r0 p1) k) ?_
  obtain ⟨T101, X101, e101, st101⟩ := getF X0 hx hZ hown (host := "") (Or.inl (hw _ (List.mem_of_getElem? (i := 13) rfl))) Via.refl e0 F_minArguments_r0 (g := (mkF m 2 #[.val (.ref r0), .val (.int p1)] [(.ref r0), (.int p1)])) rfl rfl (hb hby d2_2)
  obtain ⟨v3, hv3⟩ : ∃ z : Int32, z = (if w3 < p1 then (0 : Int32) else (1 : Int32)) := ⟨_, rfl⟩
  obtain ⟨v4, hv4⟩ : ∃ z : Int32, z = (if p1 < w2 then (0 : Int32) else v3) := ⟨_, rfl⟩
  obtain ⟨T108, lc108, X108, N108, e108, st108⟩ := own_mrg (n0 := n0) (h := h0) (g := (mkF m 5 #[.val (.ref r0), .val (.int p1)] [(.int w2), (.int p1)])) (g' := (mkF m 21 #[.val (.ref r0), .val (.int p1)] [(.int v4)])) X101 (by
    by_cases hc5_1 : p1 < w2
    · have hgo102 : ∀ t, Steps p.tables e below (T101.setTop (mkF m 21 #[.val (.ref r0), .val (.int p1)] [(.int (0 : Int32))])) t → Steps p.tables e below (T101.setTop (mkF m 5 #[.val (.ref r0), .val (.int p1)] [(.int w2), (.int p1)])) t := by
        intro t kt
        show Steps p.tables e below (T101.setTop (mkF m 5 #[.val (.ref r0), .val (.int p1)] [(.int w2), (.int p1)])) _
        refine XS.icmpYes X101.here hx rfl (pc0 := 5) (pc' := 20) rfl (hb hby d2_5) rfl (tlt hc5_1).1 (by decide) (by decide) ?_
        show Steps p.tables e below (T101.setTop (mkF m 20 #[.val (.ref r0), .val (.int p1)] [])) _
        refine XS.iconst X101.here hx rfl (hb hby d2_20) ?_
        exact kt
      refine own_arm hgo102 ?_
      exact own_armEnd X101 N0 e101 (by rw [hv4.trans (if_pos hc5_1)])
    · obtain ⟨T103, X103, e103, st103⟩ := getF X101 hx hZ hown (host := "") (Or.inl (hw _ (List.mem_of_getElem? (i := 15) rfl))) Via.refl e101 F_maxArguments_r0 (g := (mkF m 10 #[.val (.ref r0), .val (.int p1)] [(.ref r0), (.int p1)])) rfl rfl (hb hby d2_10)
      obtain ⟨T106, lc106, X106, N106, e106, st106⟩ := own_mrg (n0 := n0) (h := h0) (g := (mkF m 13 #[.val (.ref r0), .val (.int p1)] [(.int w3), (.int p1)])) (g' := (mkF m 21 #[.val (.ref r0), .val (.int p1)] [(.int v3)])) X103 (by
        by_cases hc13_2 : w3 < p1
        · have hgo104 : ∀ t, Steps p.tables e below (T103.setTop (mkF m 21 #[.val (.ref r0), .val (.int p1)] [(.int (0 : Int32))])) t → Steps p.tables e below (T103.setTop (mkF m 13 #[.val (.ref r0), .val (.int p1)] [(.int w3), (.int p1)])) t := by
            intro t kt
            show Steps p.tables e below (T103.setTop (mkF m 13 #[.val (.ref r0), .val (.int p1)] [(.int w3), (.int p1)])) _
            refine XS.icmpYes X103.here hx rfl (pc0 := 13) (pc' := 20) rfl (hb hby d2_13) rfl (tlt hc13_2).2.2.1 (by decide) (by decide) ?_
            show Steps p.tables e below (T103.setTop (mkF m 20 #[.val (.ref r0), .val (.int p1)] [])) _
            refine XS.iconst X103.here hx rfl (hb hby d2_20) ?_
            exact kt
          refine own_arm hgo104 ?_
          exact own_armEnd X103 N0 e103 (by rw [hv3.trans (if_pos hc13_2)])
        · have hgo105 : ∀ t, Steps p.tables e below (T103.setTop (mkF m 21 #[.val (.ref r0), .val (.int p1)] [(.int (1 : Int32))])) t → Steps p.tables e below (T103.setTop (mkF m 13 #[.val (.ref r0), .val (.int p1)] [(.int w3), (.int p1)])) t := by
            intro t kt
            show Steps p.tables e below (T103.setTop (mkF m 13 #[.val (.ref r0), .val (.int p1)] [(.int w3), (.int p1)])) _
            refine XS.icmpNo X103.here hx rfl (hb hby d2_13) rfl (flt hc13_2).2.2.1 ?_
            show Steps p.tables e below (T103.setTop (mkF m 16 #[.val (.ref r0), .val (.int p1)] [])) _
            refine XS.iconst X103.here hx rfl (hb hby d2_16) ?_
            show Steps p.tables e below (T103.setTop (mkF m 17 #[.val (.ref r0), .val (.int p1)] [(.int (1 : Int32))])) _
            refine XS.goto X103.here hx rfl (pc0 := 17) (pc' := 21) rfl (hb hby d2_17) (by decide) (by decide) ?_
            exact kt
          refine own_arm hgo105 ?_
          exact own_armEnd X103 N0 e103 (by rw [hv3.trans (if_neg hc13_2)]))
      have hgo107 : ∀ t, Steps p.tables e below (T106.setTop (mkF m 21 #[.val (.ref r0), .val (.int p1)] [(.int v3)])) t → Steps p.tables e below (T101.setTop (mkF m 5 #[.val (.ref r0), .val (.int p1)] [(.int w2), (.int p1)])) t := by
        intro t kt
        show Steps p.tables e below (T101.setTop (mkF m 5 #[.val (.ref r0), .val (.int p1)] [(.int w2), (.int p1)])) _
        refine XS.icmpNo X101.here hx rfl (hb hby d2_5) rfl (flt hc5_1).1 ?_
        show Steps p.tables e below (T101.setTop (mkF m 8 #[.val (.ref r0), .val (.int p1)] [])) _
        refine XS.iloadN X101.here hx rfl (hb hby d2_8) rfl ?_
        show Steps p.tables e below (T101.setTop (mkF m 9 #[.val (.ref r0), .val (.int p1)] [(.int p1)])) _
        refine XS.aloadN X101.here hx rfl (hb hby d2_9) rfl rfl ?_
        show Steps p.tables e below (T101.setTop (mkF m 10 #[.val (.ref r0), .val (.int p1)] [(.ref r0), (.int p1)])) _
        refine st103 _ ?_
        show Steps p.tables e below (T103.setTop (mkF m 13 #[.val (.ref r0), .val (.int p1)] [(.int w3), (.int p1)])) _
        refine st106 _ ?_
        exact kt
      refine own_arm hgo107 ?_
      exact own_armEnd X106 N106 e106 (by rw [hv4.trans (if_neg hc5_1)]))
  have hgo109 : ∀ t, Steps p.tables e below (T108.setTop (mkF m 21 #[.val (.ref r0), .val (.int p1)] [(.int v4)])) t → Steps p.tables e below (s₁.setTop (mkF m 0 #[.val (.ref r0), .val (.int p1)] [])) t := by
    intro t kt
    show Steps p.tables e below (s₁.setTop (mkF m 0 #[.val (.ref r0), .val (.int p1)] [])) _
    refine XS.iloadN X0.here hx rfl (hb hby d2_0) rfl ?_
    show Steps p.tables e below (s₁.setTop (mkF m 1 #[.val (.ref r0), .val (.int p1)] [(.int p1)])) _
    refine XS.aloadN X0.here hx rfl (hb hby d2_1) rfl rfl ?_
    show Steps p.tables e below (s₁.setTop (mkF m 2 #[.val (.ref r0), .val (.int p1)] [(.ref r0), (.int p1)])) _
    refine st101 _ ?_
    show Steps p.tables e below (T101.setTop (mkF m 5 #[.val (.ref r0), .val (.int p1)] [(.int w2), (.int p1)])) _
    refine st108 _ ?_
    exact kt
  refine own_go hgo109 ?_
  exact own_retZ X108 hx Bd.returns Bd.notSynchronized (hb hby d2_21) (by decide) (by decide) (by rw [hv4]; exact (own_ite01 (Or.inl rfl) (by rw [hv3]; exact (own_ite01 (Or.inl rfl) (Or.inr rfl))))) (by rw [e108]; exact ⟨(by subst hv4 hv3; rw [own_r2]), N108, rfl⟩)
theorem d3_0 : decode method_3_code 0 = .ok (.iload_n 0, 1) := by decide +kernel
theorem d3_1 : decode method_3_code 1 = .ok (.iconst 2, 1) := by decide +kernel
theorem d3_2 : decode method_3_code 2 = .ok (.if_icmp .eq 8, 3) := by decide +kernel
theorem d3_5 : decode method_3_code 5 = .ok (.iload_n 0, 1) := by decide +kernel
theorem d3_6 : decode method_3_code 6 = .ok (.iconst 4, 1) := by decide +kernel
theorem d3_7 : decode method_3_code 7 = .ok (.if_icmp .ne 14, 3) := by decide +kernel
theorem d3_10 : decode method_3_code 10 = .ok (.iload_n 1, 1) := by decide +kernel
theorem d3_11 : decode method_3_code 11 = .ok (.iconst 2, 1) := by decide +kernel
theorem d3_12 : decode method_3_code 12 = .ok (.if_icmp .ne 7, 3) := by decide +kernel
theorem d3_15 : decode method_3_code 15 = .ok (.iconst 1, 1) := by decide +kernel
theorem d3_16 : decode method_3_code 16 = .ok (.goto 4, 3) := by decide +kernel
theorem d3_19 : decode method_3_code 19 = .ok (.iconst 0, 1) := by decide +kernel
theorem d3_20 : decode method_3_code 20 = .ok (.ireturn, 1) := by decide +kernel
theorem d3_21 : decode method_3_code 21 = .ok (.iload_n 0, 1) := by decide +kernel
theorem d3_22 : decode method_3_code 22 = .ok (.bipush 9, 2) := by decide +kernel
theorem d3_24 : decode method_3_code 24 = .ok (.if_icmp .ne 19, 3) := by decide +kernel
theorem d3_27 : decode method_3_code 27 = .ok (.iload_n 1, 1) := by decide +kernel
theorem d3_28 : decode method_3_code 28 = .ok (.iconst 2, 1) := by decide +kernel
theorem d3_29 : decode method_3_code 29 = .ok (.if_icmp .eq 8, 3) := by decide +kernel
theorem d3_32 : decode method_3_code 32 = .ok (.iload_n 1, 1) := by decide +kernel
theorem d3_33 : decode method_3_code 33 = .ok (.iconst 3, 1) := by decide +kernel
theorem d3_34 : decode method_3_code 34 = .ok (.if_icmp .ne 7, 3) := by decide +kernel
theorem d3_37 : decode method_3_code 37 = .ok (.iconst 1, 1) := by decide +kernel
theorem d3_38 : decode method_3_code 38 = .ok (.goto 4, 3) := by decide +kernel
theorem d3_41 : decode method_3_code 41 = .ok (.iconst 0, 1) := by decide +kernel
theorem d3_42 : decode method_3_code 42 = .ok (.ireturn, 1) := by decide +kernel
theorem d3_43 : decode method_3_code 43 = .ok (.iload_n 1, 1) := by decide +kernel
theorem d3_44 : decode method_3_code 44 = .ok (.iconst 1, 1) := by decide +kernel
theorem d3_45 : decode method_3_code 45 = .ok (.if_icmp .ne 7, 3) := by decide +kernel
theorem d3_48 : decode method_3_code 48 = .ok (.iconst 1, 1) := by decide +kernel
theorem d3_49 : decode method_3_code 49 = .ok (.goto 4, 3) := by decide +kernel
theorem d3_52 : decode method_3_code 52 = .ok (.iconst 0, 1) := by decide +kernel
theorem d3_53 : decode method_3_code 53 = .ok (.ireturn, 1) := by decide +kernel
theorem ef_3 (m : MethodId) (p0 : Int32) (p1 : Int32) : entryFrame m #[(.int p0), (.int p1)] 2 = mkF m 0 #[.val (.int p0), .val (.int p1)] [] := by (first | (simp [entryFrame, mkF, argsToLocals, Value.category]; done) | rfl)
def own_r3 (p0 : Int32) (p1 : Int32) : Int32 := (if p0 = (2 : Int32) then (if p1 = (2 : Int32) then (1 : Int32) else (0 : Int32)) else (if p0 = (4 : Int32) then (if p1 = (2 : Int32) then (1 : Int32) else (0 : Int32)) else (if p0 = (9 : Int32) then (if p1 = (2 : Int32) then (1 : Int32) else (if p1 = (3 : Int32) then (1 : Int32) else (0 : Int32))) else (if p1 = (1 : Int32) then (1 : Int32) else (0 : Int32)))))
theorem own_r3_b (p0 : Int32) (p1 : Int32) : own_r3 p0 p1 = 0 ∨ own_r3 p0 p1 = 1 := by unfold own_r3; exact (own_ite01 (own_ite01 (Or.inr rfl) (Or.inl rfl)) (own_ite01 (own_ite01 (Or.inr rfl) (Or.inl rfl)) (own_ite01 (own_ite01 (Or.inr rfl) (own_ite01 (Or.inr rfl) (Or.inl rfl))) (own_ite01 (Or.inr rfl) (Or.inl rfl)))))
def Q3 (Z : State) (p0 : Int32) (p1 : Int32) (h0 : Heap) (n0 : Nat) (v : Option Value) (h : Heap) (L : List Loc) : Prop := v = some (.int (own_r3 p0 p1)) ∧ Fr n0 L ∧ h = h0
set_option maxRecDepth 65536 in
set_option maxHeartbeats 40000000 in
theorem rm3 (l : Launch) (Z : State) (a0 : Array Value) (hw : ∀ d ∈ tables_1, d.before a0 Z = true) (ws : List Jvm.Cond) (p0 : Int32) (p1 : Int32) (h0 : Heap) (n0 : Nat) (Z0 : n0 ≤ h0.size) :
    MetFree l (⟨"com/example/muset/muset/sparql/BuiltInTakesPinLaw", "expected", "(II)Z"⟩ : MethodName) (head1 (Jvm.Cond.code (⟨"com/example/muset/muset/sparql/BuiltInTakesPinLaw", "expected", "(II)Z"⟩ : MethodName) method_3_code 2 (some .boolean) :: ws) ({ frames := 0, cells := 0, slots := 0, locals := 0 } : Room)) (fun a U => a = #[(.int p0), (.int p1)] ∧ Z.Warmed39 U.vm ∧ U.heap = h0) (fun _ _ _ _ _ => True) (fun _ U o U' => ∃ v L, o = .returned v ∧ Q3 Z p0 p1 h0 n0 v U'.heap L ∧ FrameEnd U o U' L ({ frames := 0, cells := 0, slots := 0, locals := 0 } : Room).cells ({ frames := 0, cells := 0, slots := 0, locals := 0 } : Room).slots) := by
  refine MetFree.of_bodySF (plainFor_of_name pn0) hisR ?_
  intro p e s m args below meth c s₁ Bd hml0 hP hK
  obtain ⟨rfl, hZ, hh⟩ := hP
  have hx := Bd.exec
  have hby := Bd.bytes
  have hml : c.maxLocals = 2 := hml0
  have hown : s.vm.findClass "com/example/muset/muset/sparql/BuiltInTakesPinLaw" = some m.cls := findClass_of_methodNamed Bd.named
  have hnm := (name_of_methodNamed Bd.named Bd.method).1
  have X0 : Stand p l e ({ frames := 0, cells := 0, slots := 0, locals := 0 } : Room) s m #[(.int p0), (.int p1)] below meth c s₁ [] 0 0 := Stand.of_body Bd
  have e0 : s₁.heap = h0 := by rw [← hh, Bd.state]; rfl
  have N0 := Fr.nil n0
  have K0 : Keep h0 h0 [] := Keep.refl h0 _
  show own_Go p e below s (Q3 Z p0 p1 h0 n0) ({ frames := 0, cells := 0, slots := 0, locals := 0 } : Room).cells ({ frames := 0, cells := 0, slots := 0, locals := 0 } : Room).slots (s₁.setTop (entryFrame m #[(.int p0), (.int p1)] 2))
  refine own_go (fun t k => castTop (ef_3 m p0 p1) k) ?_
  have hgo101 : ∀ t, Steps p.tables e below (s₁.setTop (mkF m 2 #[.val (.int p0), .val (.int p1)] [(.int (2 : Int32)), (.int p0)])) t → Steps p.tables e below (s₁.setTop (mkF m 0 #[.val (.int p0), .val (.int p1)] [])) t := by
    intro t kt
    show Steps p.tables e below (s₁.setTop (mkF m 0 #[.val (.int p0), .val (.int p1)] [])) _
    refine XS.iloadN X0.here hx rfl (hb hby d3_0) rfl ?_
    show Steps p.tables e below (s₁.setTop (mkF m 1 #[.val (.int p0), .val (.int p1)] [(.int p0)])) _
    refine XS.iconst X0.here hx rfl (hb hby d3_1) ?_
    exact kt
  refine own_go hgo101 ?_
  by_cases hc2_1 : p0 = (2 : Int32)
  · obtain ⟨v3, hv3⟩ : ∃ z : Int32, z = (if p1 = (2 : Int32) then (1 : Int32) else (0 : Int32)) := ⟨_, rfl⟩
    obtain ⟨T104, lc104, X104, N104, e104, st104⟩ := own_mrg (n0 := n0) (h := h0) (g := (mkF m 12 #[.val (.int p0), .val (.int p1)] [(.int (2 : Int32)), (.int p1)])) (g' := (mkF m 20 #[.val (.int p0), .val (.int p1)] [(.int v3)])) X0 (by
      by_cases hc12_2 : p1 = (2 : Int32)
      · have hgo102 : ∀ t, Steps p.tables e below (s₁.setTop (mkF m 20 #[.val (.int p0), .val (.int p1)] [(.int (1 : Int32))])) t → Steps p.tables e below (s₁.setTop (mkF m 12 #[.val (.int p0), .val (.int p1)] [(.int (2 : Int32)), (.int p1)])) t := by
          intro t kt
          show Steps p.tables e below (s₁.setTop (mkF m 12 #[.val (.int p0), .val (.int p1)] [(.int (2 : Int32)), (.int p1)])) _
          refine XS.icmpNo X0.here hx rfl (hb hby d3_12) rfl (teq hc12_2).2 ?_
          show Steps p.tables e below (s₁.setTop (mkF m 15 #[.val (.int p0), .val (.int p1)] [])) _
          refine XS.iconst X0.here hx rfl (hb hby d3_15) ?_
          show Steps p.tables e below (s₁.setTop (mkF m 16 #[.val (.int p0), .val (.int p1)] [(.int (1 : Int32))])) _
          refine XS.goto X0.here hx rfl (pc0 := 16) (pc' := 20) rfl (hb hby d3_16) (by decide) (by decide) ?_
          exact kt
        refine own_arm hgo102 ?_
        exact own_armEnd X0 N0 e0 (by rw [hv3.trans (if_pos hc12_2)])
      · have hgo103 : ∀ t, Steps p.tables e below (s₁.setTop (mkF m 20 #[.val (.int p0), .val (.int p1)] [(.int (0 : Int32))])) t → Steps p.tables e below (s₁.setTop (mkF m 12 #[.val (.int p0), .val (.int p1)] [(.int (2 : Int32)), (.int p1)])) t := by
          intro t kt
          show Steps p.tables e below (s₁.setTop (mkF m 12 #[.val (.int p0), .val (.int p1)] [(.int (2 : Int32)), (.int p1)])) _
          refine XS.icmpYes X0.here hx rfl (pc0 := 12) (pc' := 19) rfl (hb hby d3_12) rfl (feq hc12_2).2 (by decide) (by decide) ?_
          show Steps p.tables e below (s₁.setTop (mkF m 19 #[.val (.int p0), .val (.int p1)] [])) _
          refine XS.iconst X0.here hx rfl (hb hby d3_19) ?_
          exact kt
        refine own_arm hgo103 ?_
        exact own_armEnd X0 N0 e0 (by rw [hv3.trans (if_neg hc12_2)]))
    have hgo105 : ∀ t, Steps p.tables e below (T104.setTop (mkF m 20 #[.val (.int p0), .val (.int p1)] [(.int v3)])) t → Steps p.tables e below (s₁.setTop (mkF m 2 #[.val (.int p0), .val (.int p1)] [(.int (2 : Int32)), (.int p0)])) t := by
      intro t kt
      show Steps p.tables e below (s₁.setTop (mkF m 2 #[.val (.int p0), .val (.int p1)] [(.int (2 : Int32)), (.int p0)])) _
      refine XS.icmpYes X0.here hx rfl (pc0 := 2) (pc' := 10) rfl (hb hby d3_2) rfl (teq hc2_1).1 (by decide) (by decide) ?_
      show Steps p.tables e below (s₁.setTop (mkF m 10 #[.val (.int p0), .val (.int p1)] [])) _
      refine XS.iloadN X0.here hx rfl (hb hby d3_10) rfl ?_
      show Steps p.tables e below (s₁.setTop (mkF m 11 #[.val (.int p0), .val (.int p1)] [(.int p1)])) _
      refine XS.iconst X0.here hx rfl (hb hby d3_11) ?_
      show Steps p.tables e below (s₁.setTop (mkF m 12 #[.val (.int p0), .val (.int p1)] [(.int (2 : Int32)), (.int p1)])) _
      refine st104 _ ?_
      exact kt
    refine own_go hgo105 ?_
    exact own_retZ X104 hx Bd.returns Bd.notSynchronized (hb hby d3_20) (by decide) (by decide) (by rw [hv3]; exact (own_ite01 (Or.inr rfl) (Or.inl rfl))) (by rw [e104]; exact ⟨(by subst hv3; rw [own_r3, if_pos hc2_1]), N104, rfl⟩)
  · have hgo106 : ∀ t, Steps p.tables e below (s₁.setTop (mkF m 7 #[.val (.int p0), .val (.int p1)] [(.int (4 : Int32)), (.int p0)])) t → Steps p.tables e below (s₁.setTop (mkF m 2 #[.val (.int p0), .val (.int p1)] [(.int (2 : Int32)), (.int p0)])) t := by
      intro t kt
      show Steps p.tables e below (s₁.setTop (mkF m 2 #[.val (.int p0), .val (.int p1)] [(.int (2 : Int32)), (.int p0)])) _
      refine XS.icmpNo X0.here hx rfl (hb hby d3_2) rfl (feq hc2_1).1 ?_
      show Steps p.tables e below (s₁.setTop (mkF m 5 #[.val (.int p0), .val (.int p1)] [])) _
      refine XS.iloadN X0.here hx rfl (hb hby d3_5) rfl ?_
      show Steps p.tables e below (s₁.setTop (mkF m 6 #[.val (.int p0), .val (.int p1)] [(.int p0)])) _
      refine XS.iconst X0.here hx rfl (hb hby d3_6) ?_
      exact kt
    refine own_go hgo106 ?_
    by_cases hc7_4 : p0 = (4 : Int32)
    · obtain ⟨v6, hv6⟩ : ∃ z : Int32, z = (if p1 = (2 : Int32) then (1 : Int32) else (0 : Int32)) := ⟨_, rfl⟩
      obtain ⟨T109, lc109, X109, N109, e109, st109⟩ := own_mrg (n0 := n0) (h := h0) (g := (mkF m 12 #[.val (.int p0), .val (.int p1)] [(.int (2 : Int32)), (.int p1)])) (g' := (mkF m 20 #[.val (.int p0), .val (.int p1)] [(.int v6)])) X0 (by
        by_cases hc12_5 : p1 = (2 : Int32)
        · have hgo107 : ∀ t, Steps p.tables e below (s₁.setTop (mkF m 20 #[.val (.int p0), .val (.int p1)] [(.int (1 : Int32))])) t → Steps p.tables e below (s₁.setTop (mkF m 12 #[.val (.int p0), .val (.int p1)] [(.int (2 : Int32)), (.int p1)])) t := by
            intro t kt
            show Steps p.tables e below (s₁.setTop (mkF m 12 #[.val (.int p0), .val (.int p1)] [(.int (2 : Int32)), (.int p1)])) _
            refine XS.icmpNo X0.here hx rfl (hb hby d3_12) rfl (teq hc12_5).2 ?_
            show Steps p.tables e below (s₁.setTop (mkF m 15 #[.val (.int p0), .val (.int p1)] [])) _
            refine XS.iconst X0.here hx rfl (hb hby d3_15) ?_
            show Steps p.tables e below (s₁.setTop (mkF m 16 #[.val (.int p0), .val (.int p1)] [(.int (1 : Int32))])) _
            refine XS.goto X0.here hx rfl (pc0 := 16) (pc' := 20) rfl (hb hby d3_16) (by decide) (by decide) ?_
            exact kt
          refine own_arm hgo107 ?_
          exact own_armEnd X0 N0 e0 (by rw [hv6.trans (if_pos hc12_5)])
        · have hgo108 : ∀ t, Steps p.tables e below (s₁.setTop (mkF m 20 #[.val (.int p0), .val (.int p1)] [(.int (0 : Int32))])) t → Steps p.tables e below (s₁.setTop (mkF m 12 #[.val (.int p0), .val (.int p1)] [(.int (2 : Int32)), (.int p1)])) t := by
            intro t kt
            show Steps p.tables e below (s₁.setTop (mkF m 12 #[.val (.int p0), .val (.int p1)] [(.int (2 : Int32)), (.int p1)])) _
            refine XS.icmpYes X0.here hx rfl (pc0 := 12) (pc' := 19) rfl (hb hby d3_12) rfl (feq hc12_5).2 (by decide) (by decide) ?_
            show Steps p.tables e below (s₁.setTop (mkF m 19 #[.val (.int p0), .val (.int p1)] [])) _
            refine XS.iconst X0.here hx rfl (hb hby d3_19) ?_
            exact kt
          refine own_arm hgo108 ?_
          exact own_armEnd X0 N0 e0 (by rw [hv6.trans (if_neg hc12_5)]))
      have hgo110 : ∀ t, Steps p.tables e below (T109.setTop (mkF m 20 #[.val (.int p0), .val (.int p1)] [(.int v6)])) t → Steps p.tables e below (s₁.setTop (mkF m 7 #[.val (.int p0), .val (.int p1)] [(.int (4 : Int32)), (.int p0)])) t := by
        intro t kt
        show Steps p.tables e below (s₁.setTop (mkF m 7 #[.val (.int p0), .val (.int p1)] [(.int (4 : Int32)), (.int p0)])) _
        refine XS.icmpNo X0.here hx rfl (hb hby d3_7) rfl (teq hc7_4).2 ?_
        show Steps p.tables e below (s₁.setTop (mkF m 10 #[.val (.int p0), .val (.int p1)] [])) _
        refine XS.iloadN X0.here hx rfl (hb hby d3_10) rfl ?_
        show Steps p.tables e below (s₁.setTop (mkF m 11 #[.val (.int p0), .val (.int p1)] [(.int p1)])) _
        refine XS.iconst X0.here hx rfl (hb hby d3_11) ?_
        show Steps p.tables e below (s₁.setTop (mkF m 12 #[.val (.int p0), .val (.int p1)] [(.int (2 : Int32)), (.int p1)])) _
        refine st109 _ ?_
        exact kt
      refine own_go hgo110 ?_
      exact own_retZ X109 hx Bd.returns Bd.notSynchronized (hb hby d3_20) (by decide) (by decide) (by rw [hv6]; exact (own_ite01 (Or.inr rfl) (Or.inl rfl))) (by rw [e109]; exact ⟨(by subst hv6; rw [own_r3, if_neg hc2_1, if_pos hc7_4]), N109, rfl⟩)
    · have hgo111 : ∀ t, Steps p.tables e below (s₁.setTop (mkF m 24 #[.val (.int p0), .val (.int p1)] [(.int (9 : Int32)), (.int p0)])) t → Steps p.tables e below (s₁.setTop (mkF m 7 #[.val (.int p0), .val (.int p1)] [(.int (4 : Int32)), (.int p0)])) t := by
        intro t kt
        show Steps p.tables e below (s₁.setTop (mkF m 7 #[.val (.int p0), .val (.int p1)] [(.int (4 : Int32)), (.int p0)])) _
        refine XS.icmpYes X0.here hx rfl (pc0 := 7) (pc' := 21) rfl (hb hby d3_7) rfl (feq hc7_4).2 (by decide) (by decide) ?_
        show Steps p.tables e below (s₁.setTop (mkF m 21 #[.val (.int p0), .val (.int p1)] [])) _
        refine XS.iloadN X0.here hx rfl (hb hby d3_21) rfl ?_
        show Steps p.tables e below (s₁.setTop (mkF m 22 #[.val (.int p0), .val (.int p1)] [(.int p0)])) _
        refine XS.bipush X0.here hx rfl (hb hby d3_22) ?_
        exact kt
      refine own_go hgo111 ?_
      by_cases hc24_7 : p0 = (9 : Int32)
      · obtain ⟨v10, hv10⟩ : ∃ z : Int32, z = (if p1 = (3 : Int32) then (1 : Int32) else (0 : Int32)) := ⟨_, rfl⟩
        obtain ⟨v11, hv11⟩ : ∃ z : Int32, z = (if p1 = (2 : Int32) then (1 : Int32) else v10) := ⟨_, rfl⟩
        obtain ⟨T117, lc117, X117, N117, e117, st117⟩ := own_mrg (n0 := n0) (h := h0) (g := (mkF m 29 #[.val (.int p0), .val (.int p1)] [(.int (2 : Int32)), (.int p1)])) (g' := (mkF m 42 #[.val (.int p0), .val (.int p1)] [(.int v11)])) X0 (by
          by_cases hc29_8 : p1 = (2 : Int32)
          · have hgo112 : ∀ t, Steps p.tables e below (s₁.setTop (mkF m 42 #[.val (.int p0), .val (.int p1)] [(.int (1 : Int32))])) t → Steps p.tables e below (s₁.setTop (mkF m 29 #[.val (.int p0), .val (.int p1)] [(.int (2 : Int32)), (.int p1)])) t := by
              intro t kt
              show Steps p.tables e below (s₁.setTop (mkF m 29 #[.val (.int p0), .val (.int p1)] [(.int (2 : Int32)), (.int p1)])) _
              refine XS.icmpYes X0.here hx rfl (pc0 := 29) (pc' := 37) rfl (hb hby d3_29) rfl (teq hc29_8).1 (by decide) (by decide) ?_
              show Steps p.tables e below (s₁.setTop (mkF m 37 #[.val (.int p0), .val (.int p1)] [])) _
              refine XS.iconst X0.here hx rfl (hb hby d3_37) ?_
              show Steps p.tables e below (s₁.setTop (mkF m 38 #[.val (.int p0), .val (.int p1)] [(.int (1 : Int32))])) _
              refine XS.goto X0.here hx rfl (pc0 := 38) (pc' := 42) rfl (hb hby d3_38) (by decide) (by decide) ?_
              exact kt
            refine own_arm hgo112 ?_
            exact own_armEnd X0 N0 e0 (by rw [hv11.trans (if_pos hc29_8)])
          · obtain ⟨T115, lc115, X115, N115, e115, st115⟩ := own_mrg (n0 := n0) (h := h0) (g := (mkF m 34 #[.val (.int p0), .val (.int p1)] [(.int (3 : Int32)), (.int p1)])) (g' := (mkF m 42 #[.val (.int p0), .val (.int p1)] [(.int v10)])) X0 (by
              by_cases hc34_9 : p1 = (3 : Int32)
              · have hgo113 : ∀ t, Steps p.tables e below (s₁.setTop (mkF m 42 #[.val (.int p0), .val (.int p1)] [(.int (1 : Int32))])) t → Steps p.tables e below (s₁.setTop (mkF m 34 #[.val (.int p0), .val (.int p1)] [(.int (3 : Int32)), (.int p1)])) t := by
                  intro t kt
                  show Steps p.tables e below (s₁.setTop (mkF m 34 #[.val (.int p0), .val (.int p1)] [(.int (3 : Int32)), (.int p1)])) _
                  refine XS.icmpNo X0.here hx rfl (hb hby d3_34) rfl (teq hc34_9).2 ?_
                  show Steps p.tables e below (s₁.setTop (mkF m 37 #[.val (.int p0), .val (.int p1)] [])) _
                  refine XS.iconst X0.here hx rfl (hb hby d3_37) ?_
                  show Steps p.tables e below (s₁.setTop (mkF m 38 #[.val (.int p0), .val (.int p1)] [(.int (1 : Int32))])) _
                  refine XS.goto X0.here hx rfl (pc0 := 38) (pc' := 42) rfl (hb hby d3_38) (by decide) (by decide) ?_
                  exact kt
                refine own_arm hgo113 ?_
                exact own_armEnd X0 N0 e0 (by rw [hv10.trans (if_pos hc34_9)])
              · have hgo114 : ∀ t, Steps p.tables e below (s₁.setTop (mkF m 42 #[.val (.int p0), .val (.int p1)] [(.int (0 : Int32))])) t → Steps p.tables e below (s₁.setTop (mkF m 34 #[.val (.int p0), .val (.int p1)] [(.int (3 : Int32)), (.int p1)])) t := by
                  intro t kt
                  show Steps p.tables e below (s₁.setTop (mkF m 34 #[.val (.int p0), .val (.int p1)] [(.int (3 : Int32)), (.int p1)])) _
                  refine XS.icmpYes X0.here hx rfl (pc0 := 34) (pc' := 41) rfl (hb hby d3_34) rfl (feq hc34_9).2 (by decide) (by decide) ?_
                  show Steps p.tables e below (s₁.setTop (mkF m 41 #[.val (.int p0), .val (.int p1)] [])) _
                  refine XS.iconst X0.here hx rfl (hb hby d3_41) ?_
                  exact kt
                refine own_arm hgo114 ?_
                exact own_armEnd X0 N0 e0 (by rw [hv10.trans (if_neg hc34_9)]))
            have hgo116 : ∀ t, Steps p.tables e below (T115.setTop (mkF m 42 #[.val (.int p0), .val (.int p1)] [(.int v10)])) t → Steps p.tables e below (s₁.setTop (mkF m 29 #[.val (.int p0), .val (.int p1)] [(.int (2 : Int32)), (.int p1)])) t := by
              intro t kt
              show Steps p.tables e below (s₁.setTop (mkF m 29 #[.val (.int p0), .val (.int p1)] [(.int (2 : Int32)), (.int p1)])) _
              refine XS.icmpNo X0.here hx rfl (hb hby d3_29) rfl (feq hc29_8).1 ?_
              show Steps p.tables e below (s₁.setTop (mkF m 32 #[.val (.int p0), .val (.int p1)] [])) _
              refine XS.iloadN X0.here hx rfl (hb hby d3_32) rfl ?_
              show Steps p.tables e below (s₁.setTop (mkF m 33 #[.val (.int p0), .val (.int p1)] [(.int p1)])) _
              refine XS.iconst X0.here hx rfl (hb hby d3_33) ?_
              show Steps p.tables e below (s₁.setTop (mkF m 34 #[.val (.int p0), .val (.int p1)] [(.int (3 : Int32)), (.int p1)])) _
              refine st115 _ ?_
              exact kt
            refine own_arm hgo116 ?_
            exact own_armEnd X115 N115 e115 (by rw [hv11.trans (if_neg hc29_8)]))
        have hgo118 : ∀ t, Steps p.tables e below (T117.setTop (mkF m 42 #[.val (.int p0), .val (.int p1)] [(.int v11)])) t → Steps p.tables e below (s₁.setTop (mkF m 24 #[.val (.int p0), .val (.int p1)] [(.int (9 : Int32)), (.int p0)])) t := by
          intro t kt
          show Steps p.tables e below (s₁.setTop (mkF m 24 #[.val (.int p0), .val (.int p1)] [(.int (9 : Int32)), (.int p0)])) _
          refine XS.icmpNo X0.here hx rfl (hb hby d3_24) rfl (teq hc24_7).2 ?_
          show Steps p.tables e below (s₁.setTop (mkF m 27 #[.val (.int p0), .val (.int p1)] [])) _
          refine XS.iloadN X0.here hx rfl (hb hby d3_27) rfl ?_
          show Steps p.tables e below (s₁.setTop (mkF m 28 #[.val (.int p0), .val (.int p1)] [(.int p1)])) _
          refine XS.iconst X0.here hx rfl (hb hby d3_28) ?_
          show Steps p.tables e below (s₁.setTop (mkF m 29 #[.val (.int p0), .val (.int p1)] [(.int (2 : Int32)), (.int p1)])) _
          refine st117 _ ?_
          exact kt
        refine own_go hgo118 ?_
        exact own_retZ X117 hx Bd.returns Bd.notSynchronized (hb hby d3_42) (by decide) (by decide) (by rw [hv11]; exact (own_ite01 (Or.inr rfl) (by rw [hv10]; exact (own_ite01 (Or.inr rfl) (Or.inl rfl))))) (by rw [e117]; exact ⟨(by subst hv11 hv10; rw [own_r3, if_neg hc2_1, if_neg hc7_4, if_pos hc24_7]), N117, rfl⟩)
      · obtain ⟨v13, hv13⟩ : ∃ z : Int32, z = (if p1 = (1 : Int32) then (1 : Int32) else (0 : Int32)) := ⟨_, rfl⟩
        obtain ⟨T121, lc121, X121, N121, e121, st121⟩ := own_mrg (n0 := n0) (h := h0) (g := (mkF m 45 #[.val (.int p0), .val (.int p1)] [(.int (1 : Int32)), (.int p1)])) (g' := (mkF m 53 #[.val (.int p0), .val (.int p1)] [(.int v13)])) X0 (by
          by_cases hc45_12 : p1 = (1 : Int32)
          · have hgo119 : ∀ t, Steps p.tables e below (s₁.setTop (mkF m 53 #[.val (.int p0), .val (.int p1)] [(.int (1 : Int32))])) t → Steps p.tables e below (s₁.setTop (mkF m 45 #[.val (.int p0), .val (.int p1)] [(.int (1 : Int32)), (.int p1)])) t := by
              intro t kt
              show Steps p.tables e below (s₁.setTop (mkF m 45 #[.val (.int p0), .val (.int p1)] [(.int (1 : Int32)), (.int p1)])) _
              refine XS.icmpNo X0.here hx rfl (hb hby d3_45) rfl (teq hc45_12).2 ?_
              show Steps p.tables e below (s₁.setTop (mkF m 48 #[.val (.int p0), .val (.int p1)] [])) _
              refine XS.iconst X0.here hx rfl (hb hby d3_48) ?_
              show Steps p.tables e below (s₁.setTop (mkF m 49 #[.val (.int p0), .val (.int p1)] [(.int (1 : Int32))])) _
              refine XS.goto X0.here hx rfl (pc0 := 49) (pc' := 53) rfl (hb hby d3_49) (by decide) (by decide) ?_
              exact kt
            refine own_arm hgo119 ?_
            exact own_armEnd X0 N0 e0 (by rw [hv13.trans (if_pos hc45_12)])
          · have hgo120 : ∀ t, Steps p.tables e below (s₁.setTop (mkF m 53 #[.val (.int p0), .val (.int p1)] [(.int (0 : Int32))])) t → Steps p.tables e below (s₁.setTop (mkF m 45 #[.val (.int p0), .val (.int p1)] [(.int (1 : Int32)), (.int p1)])) t := by
              intro t kt
              show Steps p.tables e below (s₁.setTop (mkF m 45 #[.val (.int p0), .val (.int p1)] [(.int (1 : Int32)), (.int p1)])) _
              refine XS.icmpYes X0.here hx rfl (pc0 := 45) (pc' := 52) rfl (hb hby d3_45) rfl (feq hc45_12).2 (by decide) (by decide) ?_
              show Steps p.tables e below (s₁.setTop (mkF m 52 #[.val (.int p0), .val (.int p1)] [])) _
              refine XS.iconst X0.here hx rfl (hb hby d3_52) ?_
              exact kt
            refine own_arm hgo120 ?_
            exact own_armEnd X0 N0 e0 (by rw [hv13.trans (if_neg hc45_12)]))
        have hgo122 : ∀ t, Steps p.tables e below (T121.setTop (mkF m 53 #[.val (.int p0), .val (.int p1)] [(.int v13)])) t → Steps p.tables e below (s₁.setTop (mkF m 24 #[.val (.int p0), .val (.int p1)] [(.int (9 : Int32)), (.int p0)])) t := by
          intro t kt
          show Steps p.tables e below (s₁.setTop (mkF m 24 #[.val (.int p0), .val (.int p1)] [(.int (9 : Int32)), (.int p0)])) _
          refine XS.icmpYes X0.here hx rfl (pc0 := 24) (pc' := 43) rfl (hb hby d3_24) rfl (feq hc24_7).2 (by decide) (by decide) ?_
          show Steps p.tables e below (s₁.setTop (mkF m 43 #[.val (.int p0), .val (.int p1)] [])) _
          refine XS.iloadN X0.here hx rfl (hb hby d3_43) rfl ?_
          show Steps p.tables e below (s₁.setTop (mkF m 44 #[.val (.int p0), .val (.int p1)] [(.int p1)])) _
          refine XS.iconst X0.here hx rfl (hb hby d3_44) ?_
          show Steps p.tables e below (s₁.setTop (mkF m 45 #[.val (.int p0), .val (.int p1)] [(.int (1 : Int32)), (.int p1)])) _
          refine st121 _ ?_
          exact kt
        refine own_go hgo122 ?_
        exact own_retZ X121 hx Bd.returns Bd.notSynchronized (hb hby d3_53) (by decide) (by decide) (by rw [hv13]; exact (own_ite01 (Or.inr rfl) (Or.inl rfl))) (by rw [e121]; exact ⟨(by subst hv13; rw [own_r3, if_neg hc2_1, if_neg hc7_4, if_neg hc24_7]), N121, rfl⟩)
theorem own_ti {x : Int32} (h : x.toBitVec.toNat < 2147483648) : x.toInt = (x.toBitVec.toNat : Int) := by
  show x.toBitVec.toInt = _
  rw [BitVec.toInt_eq_toNat_cond, if_pos (by omega)]
theorem own_tn {x : Int32} (h : 0 ≤ x.toInt) : x.toInt = (x.toBitVec.toNat : Int) ∧ x.toBitVec.toNat < 2147483648 := by
  have e : x.toInt = x.toBitVec.toInt := rfl
  have c := BitVec.toInt_eq_toNat_cond x.toBitVec
  have l := x.toBitVec.isLt
  rw [e] at h ⊢
  rw [c] at h ⊢
  split at h
  · rename_i q
    rw [if_pos q]; omega
  · omega
theorem own_andn (x y : Int32) : (x &&& y).toBitVec.toNat = x.toBitVec.toNat &&& y.toBitVec.toNat := by rw [Int32.toBitVec_and, BitVec.toNat_and]
theorem own_orn (x y : Int32) : (x ||| y).toBitVec.toNat = x.toBitVec.toNat ||| y.toBitVec.toNat := by rw [Int32.toBitVec_or, BitVec.toNat_or]
theorem own_shln {x k : Int32} {n : Nat} (hk : (k.toBitVec.smod 32).toNat = n) (h : x.toBitVec.toNat * 2 ^ n < 2 ^ 32) : (x <<< k).toBitVec.toNat = x.toBitVec.toNat * 2 ^ n := by
  rw [Int32.toBitVec_shiftLeft, BitVec.shiftLeft_eq', BitVec.toNat_shiftLeft, hk, Nat.shiftLeft_eq, Nat.mod_eq_of_lt h]
theorem own_mask {x m : Int32} {k : Nat} (hm : m.toBitVec.toNat = 2 ^ k - 1) : (x &&& m).toBitVec.toNat = x.toBitVec.toNat % 2 ^ k := by
  rw [own_andn, hm, Nat.and_two_pow_sub_one_eq_mod]
theorem own_oradd {a b k : Nat} (hb : b < 2 ^ k) : (a * 2 ^ k) ||| b = a * 2 ^ k + b := by
  rw [Nat.mul_comm, ← Nat.two_pow_add_eq_or_of_lt hb]
theorem own_and31 (x : Int32) : 0 ≤ (x &&& (2147483647 : Int32)).toInt := by
  have e := own_mask (x := x) (m := 2147483647) (k := 31) rfl
  rw [own_ti (by rw [e]; omega)]; omega
theorem own_rem {x m : Int32} (hx : 0 ≤ x.toInt) (hm : 0 < m.toInt) : (x % m).toInt = x.toInt % m.toInt ∧ 0 ≤ (x % m).toInt ∧ (x % m).toInt < m.toInt := by
  have e : (x % m).toInt = x.toInt.tmod m.toInt := Int32.toInt_mod x m
  rw [Int.tmod_eq_emod_of_nonneg hx] at e
  exact ⟨e, e ▸ Int.emod_nonneg _ (by omega), e ▸ Int.emod_lt_of_pos _ hm⟩
theorem own_t1 {i c : Int32} (h2 : ¬ (i = 2)) (h4 : ¬ (i = 4)) (h9 : ¬ (i = 9)) : own_r2 c 1 1 = own_r3 i c := by
  rw [own_r3, if_neg h2, if_neg h4, if_neg h9, own_r2, ← Int32.toInt_inj]
  simp only [apply_ite Int32.toInt, Int32.lt_iff_toInt_lt, ← Int32.toInt_inj, Int32.reduceToInt]
  omega
theorem own_t2 {i c : Int32} (h : i = 2 ∨ i = 4) : own_r2 c 2 2 = own_r3 i c := by
  have e : own_r3 i c = if c = (2 : Int32) then (1 : Int32) else (0 : Int32) := by
    rcases h with q | q
    · rw [own_r3, if_pos q]
    · rw [own_r3, if_neg (by rw [q]; decide), if_pos q]
  rw [e, own_r2, ← Int32.toInt_inj]
  simp only [apply_ite Int32.toInt, Int32.lt_iff_toInt_lt, ← Int32.toInt_inj, Int32.reduceToInt]
  omega
theorem own_t9 {i c : Int32} (h : i = 9) : own_r2 c 2 3 = own_r3 i c := by
  rw [own_r3, if_neg (by rw [h]; decide), if_neg (by rw [h]; decide), if_pos h, own_r2, ← Int32.toInt_inj]
  simp only [apply_ite Int32.toInt, Int32.lt_iff_toInt_lt, ← Int32.toInt_inj, Int32.reduceToInt]
  omega
theorem own_is9 {p v : Int32} (h : v = ((p &&& (2147483647 : Int32)) % (10 : Int32))) (h0 : ¬ (v = 0)) (h1 : ¬ (v = 1)) (h2 : ¬ (v = 2)) (h3 : ¬ (v = 3)) (h4 : ¬ (v = 4)) (h5 : ¬ (v = 5)) (h6 : ¬ (v = 6)) (h7 : ¬ (v = 7)) (h8 : ¬ (v = 8)) : v = 9 := by
  have r := (own_rem (own_and31 p) (m := 10) (by decide)).2
  rw [← h, show (10 : Int32).toInt = 10 from rfl] at r
  simp only [← Int32.toInt_inj, Int32.reduceToInt] at *
  omega

theorem pd2 : parseMethodDescriptor "(I)Lcom/example/muset/muset/sparql/BuiltInCall$BuiltIn;" = some ⟨[.int], some (.object "com/example/muset/muset/sparql/BuiltInCall$BuiltIn")⟩ := by decide +kernel
theorem pd3 : parseMethodDescriptor "(I)Z" = some ⟨[.int], some .boolean⟩ := by decide +kernel
theorem pd4 : parseMethodDescriptor "(II)Z" = some ⟨[.int, .int], some .boolean⟩ := by decide +kernel
theorem ef_0 (m : MethodId) (p0 : Int32) (p1 : Int32) (p2 : Int32) : entryFrame m #[(.int p0), (.int p1), (.int p2)] maxLocals = mkF m 0 #[.val (.int p0), .val (.int p1), .val (.int p2), .unset, .unset, .unset, .unset, .unset] [] := by (first | (simp [entryFrame, mkF, argsToLocals, Value.category, maxLocals]; done) | rfl)
set_option maxRecDepth 65536 in
theorem own_leaf0 {p0 p1 p2 v1 v3 v5 v7 v10 v11 : Int32} {u_BuiltInCall_BuiltIn_STR u_BuiltInCall_BuiltIn_LANG u_BuiltInCall_BuiltIn_SAME_TERM u_BuiltInCall_BuiltIn_IS_IRI u_BuiltInCall_BuiltIn_IS_LITERAL u_BuiltInCall_BuiltIn_DATATYPE u_BuiltInCall_BuiltIn_IS_URI u_BuiltInCall_BuiltIn_IS_BLANK u_BuiltInCall_BuiltIn_REGEX u_BuiltInCall_BuiltIn_LANG_MATCHES : Addr} (hv1 : v1 = ((p0 &&& (2147483647 : Int32)) % (10 : Int32))) (hv3 : v3 = ((p2 &&& (7 : Int32)) - (2 : Int32))) (hv5 : v5 = (if (own_r2 p1 (1 : Int32) (1 : Int32)) = (own_r3 v1 p1) then (1 : Int32) else (0 : Int32))) (hv7 : v7 = (if (own_r2 v3 (1 : Int32) (1 : Int32)) = (own_r3 v1 v3) then (1 : Int32) else (0 : Int32))) (hv10 : v10 = (if v7 = (0 : Int32) then (0 : Int32) else (1 : Int32))) (hv11 : v11 = (if v5 = (0 : Int32) then (0 : Int32) else v10)) (hs9_2 : v1 = (0 : Int32)) : v11 = 1 := by
  have q : ∀ c, own_r2 c 1 1 = own_r3 v1 c := fun c => own_t1 (by rw [hs9_2]; decide) (by rw [hs9_2]; decide) (by rw [hs9_2]; decide)
  rw [hv11, hv5, if_pos (q _), if_neg (by decide), hv10, hv7, if_pos (q _), if_neg (by decide)]
set_option maxRecDepth 65536 in
theorem own_leaf1 {p0 p1 p2 v1 v13 v15 v17 v20 v21 : Int32} {u_BuiltInCall_BuiltIn_STR u_BuiltInCall_BuiltIn_LANG u_BuiltInCall_BuiltIn_SAME_TERM u_BuiltInCall_BuiltIn_IS_IRI u_BuiltInCall_BuiltIn_IS_LITERAL u_BuiltInCall_BuiltIn_DATATYPE u_BuiltInCall_BuiltIn_IS_URI u_BuiltInCall_BuiltIn_IS_BLANK u_BuiltInCall_BuiltIn_REGEX u_BuiltInCall_BuiltIn_LANG_MATCHES : Addr} (hv1 : v1 = ((p0 &&& (2147483647 : Int32)) % (10 : Int32))) (hv13 : v13 = ((p2 &&& (7 : Int32)) - (2 : Int32))) (hv15 : v15 = (if (own_r2 p1 (1 : Int32) (1 : Int32)) = (own_r3 v1 p1) then (1 : Int32) else (0 : Int32))) (hv17 : v17 = (if (own_r2 v13 (1 : Int32) (1 : Int32)) = (own_r3 v1 v13) then (1 : Int32) else (0 : Int32))) (hv20 : v20 = (if v17 = (0 : Int32) then (0 : Int32) else (1 : Int32))) (hv21 : v21 = (if v15 = (0 : Int32) then (0 : Int32) else v20)) (hs9_2 : ¬ (v1 = (0 : Int32))) (hs9_12 : v1 = (1 : Int32)) : v21 = 1 := by
  have q : ∀ c, own_r2 c 1 1 = own_r3 v1 c := fun c => own_t1 (by rw [hs9_12]; decide) (by rw [hs9_12]; decide) (by rw [hs9_12]; decide)
  rw [hv21, hv15, if_pos (q _), if_neg (by decide), hv20, hv17, if_pos (q _), if_neg (by decide)]
set_option maxRecDepth 65536 in
theorem own_leaf2 {p0 p1 p2 v1 v23 v25 v27 v30 v31 : Int32} {u_BuiltInCall_BuiltIn_STR u_BuiltInCall_BuiltIn_LANG u_BuiltInCall_BuiltIn_SAME_TERM u_BuiltInCall_BuiltIn_IS_IRI u_BuiltInCall_BuiltIn_IS_LITERAL u_BuiltInCall_BuiltIn_DATATYPE u_BuiltInCall_BuiltIn_IS_URI u_BuiltInCall_BuiltIn_IS_BLANK u_BuiltInCall_BuiltIn_REGEX u_BuiltInCall_BuiltIn_LANG_MATCHES : Addr} (hv1 : v1 = ((p0 &&& (2147483647 : Int32)) % (10 : Int32))) (hv23 : v23 = ((p2 &&& (7 : Int32)) - (2 : Int32))) (hv25 : v25 = (if (own_r2 p1 (2 : Int32) (2 : Int32)) = (own_r3 v1 p1) then (1 : Int32) else (0 : Int32))) (hv27 : v27 = (if (own_r2 v23 (2 : Int32) (2 : Int32)) = (own_r3 v1 v23) then (1 : Int32) else (0 : Int32))) (hv30 : v30 = (if v27 = (0 : Int32) then (0 : Int32) else (1 : Int32))) (hv31 : v31 = (if v25 = (0 : Int32) then (0 : Int32) else v30)) (hs9_2 : ¬ (v1 = (0 : Int32))) (hs9_12 : ¬ (v1 = (1 : Int32))) (hs9_22 : v1 = (2 : Int32)) : v31 = 1 := by
  have q : ∀ c, own_r2 c 2 2 = own_r3 v1 c := fun c => own_t2 (by rw [hs9_22]; decide)
  rw [hv31, hv25, if_pos (q _), if_neg (by decide), hv30, hv27, if_pos (q _), if_neg (by decide)]
set_option maxRecDepth 65536 in
theorem own_leaf3 {p0 p1 p2 v1 v33 v35 v37 v40 v41 : Int32} {u_BuiltInCall_BuiltIn_STR u_BuiltInCall_BuiltIn_LANG u_BuiltInCall_BuiltIn_SAME_TERM u_BuiltInCall_BuiltIn_IS_IRI u_BuiltInCall_BuiltIn_IS_LITERAL u_BuiltInCall_BuiltIn_DATATYPE u_BuiltInCall_BuiltIn_IS_URI u_BuiltInCall_BuiltIn_IS_BLANK u_BuiltInCall_BuiltIn_REGEX u_BuiltInCall_BuiltIn_LANG_MATCHES : Addr} (hv1 : v1 = ((p0 &&& (2147483647 : Int32)) % (10 : Int32))) (hv33 : v33 = ((p2 &&& (7 : Int32)) - (2 : Int32))) (hv35 : v35 = (if (own_r2 p1 (1 : Int32) (1 : Int32)) = (own_r3 v1 p1) then (1 : Int32) else (0 : Int32))) (hv37 : v37 = (if (own_r2 v33 (1 : Int32) (1 : Int32)) = (own_r3 v1 v33) then (1 : Int32) else (0 : Int32))) (hv40 : v40 = (if v37 = (0 : Int32) then (0 : Int32) else (1 : Int32))) (hv41 : v41 = (if v35 = (0 : Int32) then (0 : Int32) else v40)) (hs9_2 : ¬ (v1 = (0 : Int32))) (hs9_12 : ¬ (v1 = (1 : Int32))) (hs9_22 : ¬ (v1 = (2 : Int32))) (hs9_32 : v1 = (3 : Int32)) : v41 = 1 := by
  have q : ∀ c, own_r2 c 1 1 = own_r3 v1 c := fun c => own_t1 (by rw [hs9_32]; decide) (by rw [hs9_32]; decide) (by rw [hs9_32]; decide)
  rw [hv41, hv35, if_pos (q _), if_neg (by decide), hv40, hv37, if_pos (q _), if_neg (by decide)]
set_option maxRecDepth 65536 in
theorem own_leaf4 {p0 p1 p2 v1 v43 v45 v47 v50 v51 : Int32} {u_BuiltInCall_BuiltIn_STR u_BuiltInCall_BuiltIn_LANG u_BuiltInCall_BuiltIn_SAME_TERM u_BuiltInCall_BuiltIn_IS_IRI u_BuiltInCall_BuiltIn_IS_LITERAL u_BuiltInCall_BuiltIn_DATATYPE u_BuiltInCall_BuiltIn_IS_URI u_BuiltInCall_BuiltIn_IS_BLANK u_BuiltInCall_BuiltIn_REGEX u_BuiltInCall_BuiltIn_LANG_MATCHES : Addr} (hv1 : v1 = ((p0 &&& (2147483647 : Int32)) % (10 : Int32))) (hv43 : v43 = ((p2 &&& (7 : Int32)) - (2 : Int32))) (hv45 : v45 = (if (own_r2 p1 (2 : Int32) (2 : Int32)) = (own_r3 v1 p1) then (1 : Int32) else (0 : Int32))) (hv47 : v47 = (if (own_r2 v43 (2 : Int32) (2 : Int32)) = (own_r3 v1 v43) then (1 : Int32) else (0 : Int32))) (hv50 : v50 = (if v47 = (0 : Int32) then (0 : Int32) else (1 : Int32))) (hv51 : v51 = (if v45 = (0 : Int32) then (0 : Int32) else v50)) (hs9_2 : ¬ (v1 = (0 : Int32))) (hs9_12 : ¬ (v1 = (1 : Int32))) (hs9_22 : ¬ (v1 = (2 : Int32))) (hs9_32 : ¬ (v1 = (3 : Int32))) (hs9_42 : v1 = (4 : Int32)) : v51 = 1 := by
  have q : ∀ c, own_r2 c 2 2 = own_r3 v1 c := fun c => own_t2 (by rw [hs9_42]; decide)
  rw [hv51, hv45, if_pos (q _), if_neg (by decide), hv50, hv47, if_pos (q _), if_neg (by decide)]
set_option maxRecDepth 65536 in
theorem own_leaf5 {p0 p1 p2 v1 v53 v55 v57 v60 v61 : Int32} {u_BuiltInCall_BuiltIn_STR u_BuiltInCall_BuiltIn_LANG u_BuiltInCall_BuiltIn_SAME_TERM u_BuiltInCall_BuiltIn_IS_IRI u_BuiltInCall_BuiltIn_IS_LITERAL u_BuiltInCall_BuiltIn_DATATYPE u_BuiltInCall_BuiltIn_IS_URI u_BuiltInCall_BuiltIn_IS_BLANK u_BuiltInCall_BuiltIn_REGEX u_BuiltInCall_BuiltIn_LANG_MATCHES : Addr} (hv1 : v1 = ((p0 &&& (2147483647 : Int32)) % (10 : Int32))) (hv53 : v53 = ((p2 &&& (7 : Int32)) - (2 : Int32))) (hv55 : v55 = (if (own_r2 p1 (1 : Int32) (1 : Int32)) = (own_r3 v1 p1) then (1 : Int32) else (0 : Int32))) (hv57 : v57 = (if (own_r2 v53 (1 : Int32) (1 : Int32)) = (own_r3 v1 v53) then (1 : Int32) else (0 : Int32))) (hv60 : v60 = (if v57 = (0 : Int32) then (0 : Int32) else (1 : Int32))) (hv61 : v61 = (if v55 = (0 : Int32) then (0 : Int32) else v60)) (hs9_2 : ¬ (v1 = (0 : Int32))) (hs9_12 : ¬ (v1 = (1 : Int32))) (hs9_22 : ¬ (v1 = (2 : Int32))) (hs9_32 : ¬ (v1 = (3 : Int32))) (hs9_42 : ¬ (v1 = (4 : Int32))) (hs9_52 : v1 = (5 : Int32)) : v61 = 1 := by
  have q : ∀ c, own_r2 c 1 1 = own_r3 v1 c := fun c => own_t1 (by rw [hs9_52]; decide) (by rw [hs9_52]; decide) (by rw [hs9_52]; decide)
  rw [hv61, hv55, if_pos (q _), if_neg (by decide), hv60, hv57, if_pos (q _), if_neg (by decide)]
set_option maxRecDepth 65536 in
theorem own_leaf6 {p0 p1 p2 v1 v63 v65 v67 v70 v71 : Int32} {u_BuiltInCall_BuiltIn_STR u_BuiltInCall_BuiltIn_LANG u_BuiltInCall_BuiltIn_SAME_TERM u_BuiltInCall_BuiltIn_IS_IRI u_BuiltInCall_BuiltIn_IS_LITERAL u_BuiltInCall_BuiltIn_DATATYPE u_BuiltInCall_BuiltIn_IS_URI u_BuiltInCall_BuiltIn_IS_BLANK u_BuiltInCall_BuiltIn_REGEX u_BuiltInCall_BuiltIn_LANG_MATCHES : Addr} (hv1 : v1 = ((p0 &&& (2147483647 : Int32)) % (10 : Int32))) (hv63 : v63 = ((p2 &&& (7 : Int32)) - (2 : Int32))) (hv65 : v65 = (if (own_r2 p1 (1 : Int32) (1 : Int32)) = (own_r3 v1 p1) then (1 : Int32) else (0 : Int32))) (hv67 : v67 = (if (own_r2 v63 (1 : Int32) (1 : Int32)) = (own_r3 v1 v63) then (1 : Int32) else (0 : Int32))) (hv70 : v70 = (if v67 = (0 : Int32) then (0 : Int32) else (1 : Int32))) (hv71 : v71 = (if v65 = (0 : Int32) then (0 : Int32) else v70)) (hs9_2 : ¬ (v1 = (0 : Int32))) (hs9_12 : ¬ (v1 = (1 : Int32))) (hs9_22 : ¬ (v1 = (2 : Int32))) (hs9_32 : ¬ (v1 = (3 : Int32))) (hs9_42 : ¬ (v1 = (4 : Int32))) (hs9_52 : ¬ (v1 = (5 : Int32))) (hs9_62 : v1 = (6 : Int32)) : v71 = 1 := by
  have q : ∀ c, own_r2 c 1 1 = own_r3 v1 c := fun c => own_t1 (by rw [hs9_62]; decide) (by rw [hs9_62]; decide) (by rw [hs9_62]; decide)
  rw [hv71, hv65, if_pos (q _), if_neg (by decide), hv70, hv67, if_pos (q _), if_neg (by decide)]
set_option maxRecDepth 65536 in
theorem own_leaf7 {p0 p1 p2 v1 v73 v75 v77 v80 v81 : Int32} {u_BuiltInCall_BuiltIn_STR u_BuiltInCall_BuiltIn_LANG u_BuiltInCall_BuiltIn_SAME_TERM u_BuiltInCall_BuiltIn_IS_IRI u_BuiltInCall_BuiltIn_IS_LITERAL u_BuiltInCall_BuiltIn_DATATYPE u_BuiltInCall_BuiltIn_IS_URI u_BuiltInCall_BuiltIn_IS_BLANK u_BuiltInCall_BuiltIn_REGEX u_BuiltInCall_BuiltIn_LANG_MATCHES : Addr} (hv1 : v1 = ((p0 &&& (2147483647 : Int32)) % (10 : Int32))) (hv73 : v73 = ((p2 &&& (7 : Int32)) - (2 : Int32))) (hv75 : v75 = (if (own_r2 p1 (1 : Int32) (1 : Int32)) = (own_r3 v1 p1) then (1 : Int32) else (0 : Int32))) (hv77 : v77 = (if (own_r2 v73 (1 : Int32) (1 : Int32)) = (own_r3 v1 v73) then (1 : Int32) else (0 : Int32))) (hv80 : v80 = (if v77 = (0 : Int32) then (0 : Int32) else (1 : Int32))) (hv81 : v81 = (if v75 = (0 : Int32) then (0 : Int32) else v80)) (hs9_2 : ¬ (v1 = (0 : Int32))) (hs9_12 : ¬ (v1 = (1 : Int32))) (hs9_22 : ¬ (v1 = (2 : Int32))) (hs9_32 : ¬ (v1 = (3 : Int32))) (hs9_42 : ¬ (v1 = (4 : Int32))) (hs9_52 : ¬ (v1 = (5 : Int32))) (hs9_62 : ¬ (v1 = (6 : Int32))) (hs9_72 : v1 = (7 : Int32)) : v81 = 1 := by
  have q : ∀ c, own_r2 c 1 1 = own_r3 v1 c := fun c => own_t1 (by rw [hs9_72]; decide) (by rw [hs9_72]; decide) (by rw [hs9_72]; decide)
  rw [hv81, hv75, if_pos (q _), if_neg (by decide), hv80, hv77, if_pos (q _), if_neg (by decide)]
set_option maxRecDepth 65536 in
theorem own_leaf8 {p0 p1 p2 v1 v83 v85 v87 v90 v91 : Int32} {u_BuiltInCall_BuiltIn_STR u_BuiltInCall_BuiltIn_LANG u_BuiltInCall_BuiltIn_SAME_TERM u_BuiltInCall_BuiltIn_IS_IRI u_BuiltInCall_BuiltIn_IS_LITERAL u_BuiltInCall_BuiltIn_DATATYPE u_BuiltInCall_BuiltIn_IS_URI u_BuiltInCall_BuiltIn_IS_BLANK u_BuiltInCall_BuiltIn_REGEX u_BuiltInCall_BuiltIn_LANG_MATCHES : Addr} (hv1 : v1 = ((p0 &&& (2147483647 : Int32)) % (10 : Int32))) (hv83 : v83 = ((p2 &&& (7 : Int32)) - (2 : Int32))) (hv85 : v85 = (if (own_r2 p1 (1 : Int32) (1 : Int32)) = (own_r3 v1 p1) then (1 : Int32) else (0 : Int32))) (hv87 : v87 = (if (own_r2 v83 (1 : Int32) (1 : Int32)) = (own_r3 v1 v83) then (1 : Int32) else (0 : Int32))) (hv90 : v90 = (if v87 = (0 : Int32) then (0 : Int32) else (1 : Int32))) (hv91 : v91 = (if v85 = (0 : Int32) then (0 : Int32) else v90)) (hs9_2 : ¬ (v1 = (0 : Int32))) (hs9_12 : ¬ (v1 = (1 : Int32))) (hs9_22 : ¬ (v1 = (2 : Int32))) (hs9_32 : ¬ (v1 = (3 : Int32))) (hs9_42 : ¬ (v1 = (4 : Int32))) (hs9_52 : ¬ (v1 = (5 : Int32))) (hs9_62 : ¬ (v1 = (6 : Int32))) (hs9_72 : ¬ (v1 = (7 : Int32))) (hs9_82 : v1 = (8 : Int32)) : v91 = 1 := by
  have q : ∀ c, own_r2 c 1 1 = own_r3 v1 c := fun c => own_t1 (by rw [hs9_82]; decide) (by rw [hs9_82]; decide) (by rw [hs9_82]; decide)
  rw [hv91, hv85, if_pos (q _), if_neg (by decide), hv90, hv87, if_pos (q _), if_neg (by decide)]
set_option maxRecDepth 65536 in
theorem own_leaf9 {p0 p1 p2 v1 v92 v94 v96 v99 v100 : Int32} {u_BuiltInCall_BuiltIn_STR u_BuiltInCall_BuiltIn_LANG u_BuiltInCall_BuiltIn_SAME_TERM u_BuiltInCall_BuiltIn_IS_IRI u_BuiltInCall_BuiltIn_IS_LITERAL u_BuiltInCall_BuiltIn_DATATYPE u_BuiltInCall_BuiltIn_IS_URI u_BuiltInCall_BuiltIn_IS_BLANK u_BuiltInCall_BuiltIn_REGEX u_BuiltInCall_BuiltIn_LANG_MATCHES : Addr} (hv1 : v1 = ((p0 &&& (2147483647 : Int32)) % (10 : Int32))) (hv92 : v92 = ((p2 &&& (7 : Int32)) - (2 : Int32))) (hv94 : v94 = (if (own_r2 p1 (2 : Int32) (3 : Int32)) = (own_r3 v1 p1) then (1 : Int32) else (0 : Int32))) (hv96 : v96 = (if (own_r2 v92 (2 : Int32) (3 : Int32)) = (own_r3 v1 v92) then (1 : Int32) else (0 : Int32))) (hv99 : v99 = (if v96 = (0 : Int32) then (0 : Int32) else (1 : Int32))) (hv100 : v100 = (if v94 = (0 : Int32) then (0 : Int32) else v99)) (hs9_2 : ¬ (v1 = (0 : Int32))) (hs9_12 : ¬ (v1 = (1 : Int32))) (hs9_22 : ¬ (v1 = (2 : Int32))) (hs9_32 : ¬ (v1 = (3 : Int32))) (hs9_42 : ¬ (v1 = (4 : Int32))) (hs9_52 : ¬ (v1 = (5 : Int32))) (hs9_62 : ¬ (v1 = (6 : Int32))) (hs9_72 : ¬ (v1 = (7 : Int32))) (hs9_82 : ¬ (v1 = (8 : Int32))) : v100 = 1 := by
  have q : ∀ c, own_r2 c 2 3 = own_r3 v1 c := fun c => own_t9 (own_is9 hv1 hs9_2 hs9_12 hs9_22 hs9_32 hs9_42 hs9_52 hs9_62 hs9_72 hs9_82)
  rw [hv100, hv94, if_pos (q _), if_neg (by decide), hv99, hv96, if_pos (q _), if_neg (by decide)]
def Q0 (Z : State) (p0 : Int32) (p1 : Int32) (p2 : Int32) (u_BuiltInCall_BuiltIn_STR : Addr) (u_BuiltInCall_BuiltIn_LANG : Addr) (u_BuiltInCall_BuiltIn_SAME_TERM : Addr) (u_BuiltInCall_BuiltIn_IS_IRI : Addr) (u_BuiltInCall_BuiltIn_IS_LITERAL : Addr) (u_BuiltInCall_BuiltIn_DATATYPE : Addr) (u_BuiltInCall_BuiltIn_IS_URI : Addr) (u_BuiltInCall_BuiltIn_IS_BLANK : Addr) (u_BuiltInCall_BuiltIn_REGEX : Addr) (u_BuiltInCall_BuiltIn_LANG_MATCHES : Addr) (h0 : Heap) (n0 : Nat) (v : Option Value) (h : Heap) (L : List Loc) : Prop := v = some (.int 1) ∧ Fr n0 L
set_option maxRecDepth 65536 in
set_option maxHeartbeats 40000000 in
theorem rm0 (l : Launch) (Z : State) (a0 : Array Value) (hw : ∀ d ∈ tables_1, d.before a0 Z = true) (ws : List Jvm.Cond) (p0 : Int32) (p1 : Int32) (p2 : Int32) (u_BuiltInCall_BuiltIn_STR : Addr) (u_BuiltInCall_BuiltIn_LANG : Addr) (u_BuiltInCall_BuiltIn_SAME_TERM : Addr) (u_BuiltInCall_BuiltIn_IS_IRI : Addr) (u_BuiltInCall_BuiltIn_IS_LITERAL : Addr) (u_BuiltInCall_BuiltIn_DATATYPE : Addr) (u_BuiltInCall_BuiltIn_IS_URI : Addr) (u_BuiltInCall_BuiltIn_IS_BLANK : Addr) (u_BuiltInCall_BuiltIn_REGEX : Addr) (u_BuiltInCall_BuiltIn_LANG_MATCHES : Addr) (h0 : Heap) (n0 : Nat) (Z0 : n0 ≤ h0.size) (S_u_BuiltInCall_BuiltIn_STR : Sta Z h0 "com/example/muset/muset/sparql/BuiltInCall$BuiltIn" "STR" "Lcom/example/muset/muset/sparql/BuiltInCall$BuiltIn;" (.ref u_BuiltInCall_BuiltIn_STR)) (E_u_BuiltInCall_BuiltIn_STR : Exa Z h0 u_BuiltInCall_BuiltIn_STR "com/example/muset/muset/sparql/BuiltInCall$BuiltIn") (S_u_BuiltInCall_BuiltIn_LANG : Sta Z h0 "com/example/muset/muset/sparql/BuiltInCall$BuiltIn" "LANG" "Lcom/example/muset/muset/sparql/BuiltInCall$BuiltIn;" (.ref u_BuiltInCall_BuiltIn_LANG)) (E_u_BuiltInCall_BuiltIn_LANG : Exa Z h0 u_BuiltInCall_BuiltIn_LANG "com/example/muset/muset/sparql/BuiltInCall$BuiltIn") (S_u_BuiltInCall_BuiltIn_SAME_TERM : Sta Z h0 "com/example/muset/muset/sparql/BuiltInCall$BuiltIn" "SAME_TERM" "Lcom/example/muset/muset/sparql/BuiltInCall$BuiltIn;" (.ref u_BuiltInCall_BuiltIn_SAME_TERM)) (E_u_BuiltInCall_BuiltIn_SAME_TERM : Exa Z h0 u_BuiltInCall_BuiltIn_SAME_TERM "com/example/muset/muset/sparql/BuiltInCall$BuiltIn") (S_u_BuiltInCall_BuiltIn_IS_IRI : Sta Z h0 "com/example/muset/muset/sparql/BuiltInCall$BuiltIn" "IS_IRI" "Lcom/example/muset/muset/sparql/BuiltInCall$BuiltIn;" (.ref u_BuiltInCall_BuiltIn_IS_IRI)) (E_u_BuiltInCall_BuiltIn_IS_IRI : Exa Z h0 u_BuiltInCall_BuiltIn_IS_IRI "com/example/muset/muset/sparql/BuiltInCall$BuiltIn") (S_u_BuiltInCall_BuiltIn_IS_LITERAL : Sta Z h0 "com/example/muset/muset/sparql/BuiltInCall$BuiltIn" "IS_LITERAL" "Lcom/example/muset/muset/sparql/BuiltInCall$BuiltIn;" (.ref u_BuiltInCall_BuiltIn_IS_LITERAL)) (E_u_BuiltInCall_BuiltIn_IS_LITERAL : Exa Z h0 u_BuiltInCall_BuiltIn_IS_LITERAL "com/example/muset/muset/sparql/BuiltInCall$BuiltIn") (S_u_BuiltInCall_BuiltIn_DATATYPE : Sta Z h0 "com/example/muset/muset/sparql/BuiltInCall$BuiltIn" "DATATYPE" "Lcom/example/muset/muset/sparql/BuiltInCall$BuiltIn;" (.ref u_BuiltInCall_BuiltIn_DATATYPE)) (E_u_BuiltInCall_BuiltIn_DATATYPE : Exa Z h0 u_BuiltInCall_BuiltIn_DATATYPE "com/example/muset/muset/sparql/BuiltInCall$BuiltIn") (S_u_BuiltInCall_BuiltIn_IS_URI : Sta Z h0 "com/example/muset/muset/sparql/BuiltInCall$BuiltIn" "IS_URI" "Lcom/example/muset/muset/sparql/BuiltInCall$BuiltIn;" (.ref u_BuiltInCall_BuiltIn_IS_URI)) (E_u_BuiltInCall_BuiltIn_IS_URI : Exa Z h0 u_BuiltInCall_BuiltIn_IS_URI "com/example/muset/muset/sparql/BuiltInCall$BuiltIn") (S_u_BuiltInCall_BuiltIn_IS_BLANK : Sta Z h0 "com/example/muset/muset/sparql/BuiltInCall$BuiltIn" "IS_BLANK" "Lcom/example/muset/muset/sparql/BuiltInCall$BuiltIn;" (.ref u_BuiltInCall_BuiltIn_IS_BLANK)) (E_u_BuiltInCall_BuiltIn_IS_BLANK : Exa Z h0 u_BuiltInCall_BuiltIn_IS_BLANK "com/example/muset/muset/sparql/BuiltInCall$BuiltIn") (S_u_BuiltInCall_BuiltIn_REGEX : Sta Z h0 "com/example/muset/muset/sparql/BuiltInCall$BuiltIn" "REGEX" "Lcom/example/muset/muset/sparql/BuiltInCall$BuiltIn;" (.ref u_BuiltInCall_BuiltIn_REGEX)) (E_u_BuiltInCall_BuiltIn_REGEX : Exa Z h0 u_BuiltInCall_BuiltIn_REGEX "com/example/muset/muset/sparql/BuiltInCall$BuiltIn") (S_u_BuiltInCall_BuiltIn_LANG_MATCHES : Sta Z h0 "com/example/muset/muset/sparql/BuiltInCall$BuiltIn" "LANG_MATCHES" "Lcom/example/muset/muset/sparql/BuiltInCall$BuiltIn;" (.ref u_BuiltInCall_BuiltIn_LANG_MATCHES)) (E_u_BuiltInCall_BuiltIn_LANG_MATCHES : Exa Z h0 u_BuiltInCall_BuiltIn_LANG_MATCHES "com/example/muset/muset/sparql/BuiltInCall$BuiltIn") (F_minArguments_u_BuiltInCall_BuiltIn_STR : Fld Z h0 u_BuiltInCall_BuiltIn_STR "com/example/muset/muset/sparql/BuiltInCall$BuiltIn" "minArguments" "I" (.int (1 : Int32))) (F_maxArguments_u_BuiltInCall_BuiltIn_STR : Fld Z h0 u_BuiltInCall_BuiltIn_STR "com/example/muset/muset/sparql/BuiltInCall$BuiltIn" "maxArguments" "I" (.int (1 : Int32))) (F_minArguments_u_BuiltInCall_BuiltIn_LANG : Fld Z h0 u_BuiltInCall_BuiltIn_LANG "com/example/muset/muset/sparql/BuiltInCall$BuiltIn" "minArguments" "I" (.int (1 : Int32))) (F_maxArguments_u_BuiltInCall_BuiltIn_LANG : Fld Z h0 u_BuiltInCall_BuiltIn_LANG "com/example/muset/muset/sparql/BuiltInCall$BuiltIn" "maxArguments" "I" (.int (1 : Int32))) (F_minArguments_u_BuiltInCall_BuiltIn_SAME_TERM : Fld Z h0 u_BuiltInCall_BuiltIn_SAME_TERM "com/example/muset/muset/sparql/BuiltInCall$BuiltIn" "minArguments" "I" (.int (2 : Int32))) (F_maxArguments_u_BuiltInCall_BuiltIn_SAME_TERM : Fld Z h0 u_BuiltInCall_BuiltIn_SAME_TERM "com/example/muset/muset/sparql/BuiltInCall$BuiltIn" "maxArguments" "I" (.int (2 : Int32))) (F_minArguments_u_BuiltInCall_BuiltIn_IS_IRI : Fld Z h0 u_BuiltInCall_BuiltIn_IS_IRI "com/example/muset/muset/sparql/BuiltInCall$BuiltIn" "minArguments" "I" (.int (1 : Int32))) (F_maxArguments_u_BuiltInCall_BuiltIn_IS_IRI : Fld Z h0 u_BuiltInCall_BuiltIn_IS_IRI "com/example/muset/muset/sparql/BuiltInCall$BuiltIn" "maxArguments" "I" (.int (1 : Int32))) (F_minArguments_u_BuiltInCall_BuiltIn_IS_LITERAL : Fld Z h0 u_BuiltInCall_BuiltIn_IS_LITERAL "com/example/muset/muset/sparql/BuiltInCall$BuiltIn" "minArguments" "I" (.int (1 : Int32))) (F_maxArguments_u_BuiltInCall_BuiltIn_IS_LITERAL : Fld Z h0 u_BuiltInCall_BuiltIn_IS_LITERAL "com/example/muset/muset/sparql/BuiltInCall$BuiltIn" "maxArguments" "I" (.int (1 : Int32))) (F_minArguments_u_BuiltInCall_BuiltIn_DATATYPE : Fld Z h0 u_BuiltInCall_BuiltIn_DATATYPE "com/example/muset/muset/sparql/BuiltInCall$BuiltIn" "minArguments" "I" (.int (1 : Int32))) (F_maxArguments_u_BuiltInCall_BuiltIn_DATATYPE : Fld Z h0 u_BuiltInCall_BuiltIn_DATATYPE "com/example/muset/muset/sparql/BuiltInCall$BuiltIn" "maxArguments" "I" (.int (1 : Int32))) (F_minArguments_u_BuiltInCall_BuiltIn_IS_URI : Fld Z h0 u_BuiltInCall_BuiltIn_IS_URI "com/example/muset/muset/sparql/BuiltInCall$BuiltIn" "minArguments" "I" (.int (1 : Int32))) (F_maxArguments_u_BuiltInCall_BuiltIn_IS_URI : Fld Z h0 u_BuiltInCall_BuiltIn_IS_URI "com/example/muset/muset/sparql/BuiltInCall$BuiltIn" "maxArguments" "I" (.int (1 : Int32))) (F_minArguments_u_BuiltInCall_BuiltIn_IS_BLANK : Fld Z h0 u_BuiltInCall_BuiltIn_IS_BLANK "com/example/muset/muset/sparql/BuiltInCall$BuiltIn" "minArguments" "I" (.int (1 : Int32))) (F_maxArguments_u_BuiltInCall_BuiltIn_IS_BLANK : Fld Z h0 u_BuiltInCall_BuiltIn_IS_BLANK "com/example/muset/muset/sparql/BuiltInCall$BuiltIn" "maxArguments" "I" (.int (1 : Int32))) (F_minArguments_u_BuiltInCall_BuiltIn_REGEX : Fld Z h0 u_BuiltInCall_BuiltIn_REGEX "com/example/muset/muset/sparql/BuiltInCall$BuiltIn" "minArguments" "I" (.int (2 : Int32))) (F_maxArguments_u_BuiltInCall_BuiltIn_REGEX : Fld Z h0 u_BuiltInCall_BuiltIn_REGEX "com/example/muset/muset/sparql/BuiltInCall$BuiltIn" "maxArguments" "I" (.int (3 : Int32))) (F_minArguments_u_BuiltInCall_BuiltIn_LANG_MATCHES : Fld Z h0 u_BuiltInCall_BuiltIn_LANG_MATCHES "com/example/muset/muset/sparql/BuiltInCall$BuiltIn" "minArguments" "I" (.int (2 : Int32))) (F_maxArguments_u_BuiltInCall_BuiltIn_LANG_MATCHES : Fld Z h0 u_BuiltInCall_BuiltIn_LANG_MATCHES "com/example/muset/muset/sparql/BuiltInCall$BuiltIn" "maxArguments" "I" (.int (2 : Int32))) :
    MetFree l x (head1 (Jvm.Cond.code x code maxLocals ret :: ws) room_1) (fun a U => a = #[(.int p0), (.int p1), (.int p2)] ∧ Z.Warmed39 U.vm ∧ U.heap = h0) (fun _ _ _ _ _ => True) (fun _ U o U' => ∃ v L, o = .returned v ∧ Q0 Z p0 p1 p2 u_BuiltInCall_BuiltIn_STR u_BuiltInCall_BuiltIn_LANG u_BuiltInCall_BuiltIn_SAME_TERM u_BuiltInCall_BuiltIn_IS_IRI u_BuiltInCall_BuiltIn_IS_LITERAL u_BuiltInCall_BuiltIn_DATATYPE u_BuiltInCall_BuiltIn_IS_URI u_BuiltInCall_BuiltIn_IS_BLANK u_BuiltInCall_BuiltIn_REGEX u_BuiltInCall_BuiltIn_LANG_MATCHES h0 n0 v U'.heap L ∧ FrameEnd U o U' L room_1.cells room_1.slots) := by
  refine MetFree.of_bodySF (plainFor_of_name pn0) hisR ?_
  intro p e s m args below meth c s₁ Bd hml0 hP hK
  obtain ⟨rfl, hZ, hh⟩ := hP
  have hx := Bd.exec
  have hby := Bd.bytes
  have hml : c.maxLocals = 8 := hml0
  have hown : s.vm.findClass "com/example/muset/muset/sparql/BuiltInTakesPinLaw" = some m.cls := findClass_of_methodNamed Bd.named
  have hnm := (name_of_methodNamed Bd.named Bd.method).1
  have X0 : Stand p l e room_1 s m #[(.int p0), (.int p1), (.int p2)] below meth c s₁ [] 0 0 := Stand.of_body Bd
  have e0 : s₁.heap = h0 := by rw [← hh, Bd.state]; rfl
  have N0 := Fr.nil n0
  have K0 : Keep h0 h0 [] := Keep.refl h0 _
  show own_Go p e below s (Q0 Z p0 p1 p2 u_BuiltInCall_BuiltIn_STR u_BuiltInCall_BuiltIn_LANG u_BuiltInCall_BuiltIn_SAME_TERM u_BuiltInCall_BuiltIn_IS_IRI u_BuiltInCall_BuiltIn_IS_LITERAL u_BuiltInCall_BuiltIn_DATATYPE u_BuiltInCall_BuiltIn_IS_URI u_BuiltInCall_BuiltIn_IS_BLANK u_BuiltInCall_BuiltIn_REGEX u_BuiltInCall_BuiltIn_LANG_MATCHES h0 n0) room_1.cells room_1.slots (s₁.setTop (entryFrame m #[(.int p0), (.int p1), (.int p2)] maxLocals))
  refine own_go (fun t k => castTop (ef_0 m p0 p1 p2) k) ?_
  have hnz6_101 : ¬ ((10 : Int32) = (0 : Int32)) := by decide
  obtain ⟨v1, hv1⟩ : ∃ z : Int32, z = ((p0 &&& (2147483647 : Int32)) % (10 : Int32)) := ⟨_, rfl⟩
  have hgo102 : ∀ t, Steps p.tables e below (s₁.setTop (mkF m 9 #[.val (.int p0), .val (.int p1), .val (.int p2), .val (.int v1), .unset, .unset, .unset, .unset] [(.int v1)])) t → Steps p.tables e below (s₁.setTop (mkF m 0 #[.val (.int p0), .val (.int p1), .val (.int p2), .unset, .unset, .unset, .unset, .unset] [])) t := by
    intro t kt
    show Steps p.tables e below (s₁.setTop (mkF m 0 #[.val (.int p0), .val (.int p1), .val (.int p2), .unset, .unset, .unset, .unset, .unset] [])) _
    refine XS.iloadN X0.here hx rfl (hb hby at_0) rfl ?_
    show Steps p.tables e below (s₁.setTop (mkF m 1 #[.val (.int p0), .val (.int p1), .val (.int p2), .unset, .unset, .unset, .unset, .unset] [(.int p0)])) _
    refine X0.ldcInt hx hown (mvT hZ (hw _ (List.mem_of_getElem? (i := 0) rfl))) (g := (mkF m 1 #[.val (.int p0), .val (.int p1), .val (.int p2), .unset, .unset, .unset, .unset, .unset] [(.int p0)])) rfl (hb hby at_1) _ ?_
    show Steps p.tables e below (s₁.setTop (mkF m 3 #[.val (.int p0), .val (.int p1), .val (.int p2), .unset, .unset, .unset, .unset, .unset] [(.int (2147483647 : Int32)), (.int p0)])) _
    refine XS.iand X0.here hx rfl (hb hby at_3) rfl ?_
    show Steps p.tables e below (s₁.setTop (mkF m 4 #[.val (.int p0), .val (.int p1), .val (.int p2), .unset, .unset, .unset, .unset, .unset] [(.int (p0 &&& (2147483647 : Int32)))])) _
    refine XS.bipush X0.here hx rfl (hb hby at_4) ?_
    show Steps p.tables e below (s₁.setTop (mkF m 6 #[.val (.int p0), .val (.int p1), .val (.int p2), .unset, .unset, .unset, .unset, .unset] [(.int (10 : Int32)), (.int (p0 &&& (2147483647 : Int32)))])) _
    refine XS.irem X0.here hx rfl (hb hby at_6) rfl hnz6_101 ?_
    rw [own_remI (p0 &&& (2147483647 : Int32)) (10 : Int32)]
    show Steps p.tables e below (s₁.setTop (mkF m 7 #[.val (.int p0), .val (.int p1), .val (.int p2), .unset, .unset, .unset, .unset, .unset] [(.int ((p0 &&& (2147483647 : Int32)) % (10 : Int32)))])) _
    rw [← hv1]
    show Steps p.tables e below (s₁.setTop (mkF m 7 #[.val (.int p0), .val (.int p1), .val (.int p2), .unset, .unset, .unset, .unset, .unset] [(.int v1)])) _
    refine XS.istoreN X0.here hx rfl (hb hby at_7) rfl (l' := #[.val (.int p0), .val (.int p1), .val (.int p2), .val (.int v1), .unset, .unset, .unset, .unset]) rfl ?_
    show Steps p.tables e below (s₁.setTop (mkF m 8 #[.val (.int p0), .val (.int p1), .val (.int p2), .val (.int v1), .unset, .unset, .unset, .unset] [])) _
    refine XS.iloadN X0.here hx rfl (hb hby at_8) rfl ?_
    exact kt
  refine own_go hgo102 ?_
  by_cases hs9_2 : v1 = (0 : Int32)
  · obtain ⟨_, _, ⟨T103, L103, k103, n103⟩, -, X103, ⟨Lc103, hQ103, l103, y103, z103⟩, st103⟩ := Jvm.LawKit.callS X0 hx (y := (⟨"com/example/muset/muset/sparql/BuiltInTakesPinLaw", "pick", "(I)Lcom/example/muset/muset/sparql/BuiltInCall$BuiltIn;"⟩ : MethodName)) hown (mvT hZ (hw _ (List.mem_of_getElem? (i := 1) rfl))) (mvT hZ (hw _ (List.mem_of_getElem? (i := 2) rfl))) (mvT hZ (hw _ (List.mem_of_getElem? (i := 3) rfl))) (mvT hZ (hw _ (List.mem_of_getElem? (i := 4) rfl))) (by decide) (backOf (W := 0) (rm1_0 l Z a0 hw [] v1 u_BuiltInCall_BuiltIn_STR h0 n0 Z0 (by first | assumption | decide : v1 = (0 : Int32)) S_u_BuiltInCall_BuiltIn_STR) hZ (hw _ (List.mem_of_getElem? (i := 4) rfl)) (hw _ (List.mem_of_getElem? (i := 3) rfl)) (by decide) (by decide)) (g := (mkF m 9 #[.val (.int p0), .val (.int p1), .val (.int p2), .val (.int v1), .unset, .unset, .unset, .unset] [(.int v1)])) rfl (by rw [hml]; rfl) (argsL := [(.int v1)]) (rest := []) (lenOf pd2 rfl) rfl (by show 2 * 0 + _ ≤ _; exact Nat.le_of_eq rfl) (hb hby at_9) (fun _ _ => ⟨rfl, e0, (by decide : 0 + 0 ≤ _), (by decide : 0 + 0 ≤ _)⟩)
    dsimp only [Pt.U, Pt.locs, Pt.cells, Pt.slots] at X103 l103 y103 z103 st103 hQ103
    subst l103 y103 z103
    obtain ⟨rfl, N103q, e103⟩ := hQ103
    have N103 := Fr.app N0 N103q
    obtain ⟨v3, hv3⟩ : ∃ z : Int32, z = ((p2 &&& (7 : Int32)) - (2 : Int32)) := ⟨_, rfl⟩
    obtain ⟨cq104, kq104, q104a, q104b, q104c⟩ := isOf hZ e103 E_u_BuiltInCall_BuiltIn_STR
    obtain ⟨_, _, ⟨T104, L104, k104, n104⟩, -, X104, ⟨Lc104, hQ104, l104, y104, z104⟩, st104⟩ := X103.virtualBack hx (y := (⟨"com/example/muset/muset/sparql/BuiltInCall$BuiltIn", "takes", "(I)Z"⟩ : MethodName)) (z := (⟨"com/example/muset/muset/sparql/BuiltInCall$BuiltIn", "takes", "(I)Z"⟩ : MethodName)) hown (mvT hZ (hw _ (List.mem_of_getElem? (i := 8) rfl))) (mvT hZ (hw _ (List.mem_of_getElem? (i := 9) rfl))) (notFace_of_selects (args := #[]) (mvT hZ (hw _ (List.mem_of_getElem? (i := 11) rfl)))) (mvT hZ (hw _ (List.mem_of_getElem? (i := 11) rfl))) (mvT hZ (hw _ (List.mem_of_getElem? (i := 10) rfl))) (by decide) (backOf (W := 0) (rm2 l Z a0 hw [] u_BuiltInCall_BuiltIn_STR p1 (1 : Int32) (1 : Int32) h0 n0 Z0 F_minArguments_u_BuiltInCall_BuiltIn_STR F_maxArguments_u_BuiltInCall_BuiltIn_STR) hZ (hw _ (List.mem_of_getElem? (i := 12) rfl)) (hw _ (List.mem_of_getElem? (i := 6) rfl)) (by decide) (by decide)) q104a q104c (g := (mkF m 25 #[.val (.int p0), .val (.int p1), .val (.int p2), .val (.int v1), .val (.ref u_BuiltInCall_BuiltIn_STR), .val (.int v3), .unset, .unset] [(.int p1), (.ref u_BuiltInCall_BuiltIn_STR)])) rfl (by rw [hml]; rfl) (Steps.refl _) (argsL := [(.int p1)]) (rest := []) (lenOf pd3 rfl) rfl (by show 2 * 0 + _ ≤ _; exact Nat.le_of_eq rfl) (hb hby at_25) (fun _ _ => ⟨rfl, e103, (by decide : 0 + 0 ≤ _), (by decide : 0 + 0 ≤ _)⟩)
    dsimp only [Pt.U, Pt.locs, Pt.cells, Pt.slots] at X104 l104 y104 z104 st104 hQ104
    subst l104 y104 z104
    obtain ⟨rfl, N104q, e104⟩ := hQ104
    have N104 := Fr.app N103 N104q
    obtain ⟨_, _, ⟨T105, L105, k105, n105⟩, -, X105, ⟨Lc105, hQ105, l105, y105, z105⟩, st105⟩ := Jvm.LawKit.callS X104 hx (y := (⟨"com/example/muset/muset/sparql/BuiltInTakesPinLaw", "expected", "(II)Z"⟩ : MethodName)) hown (mvT hZ (hw _ (List.mem_of_getElem? (i := 17) rfl))) (mvT hZ (hw _ (List.mem_of_getElem? (i := 18) rfl))) (mvT hZ (hw _ (List.mem_of_getElem? (i := 3) rfl))) (mvT hZ (hw _ (List.mem_of_getElem? (i := 19) rfl))) (by decide) (backOf (W := 1) (rm3 l Z a0 hw [] v1 p1 h0 n0 Z0 ) hZ (hw _ (List.mem_of_getElem? (i := 19) rfl)) (hw _ (List.mem_of_getElem? (i := 3) rfl)) (by decide) (by decide)) (g := (mkF m 30 #[.val (.int p0), .val (.int p1), .val (.int p2), .val (.int v1), .val (.ref u_BuiltInCall_BuiltIn_STR), .val (.int v3), .unset, .unset] [(.int p1), (.int v1), (.int (own_r2 p1 (1 : Int32) (1 : Int32)))])) rfl (by rw [hml]; rfl) (argsL := [(.int v1), (.int p1)]) (rest := [(.int (own_r2 p1 (1 : Int32) (1 : Int32)))]) (lenOf pd4 rfl) rfl (by show 2 * 0 + _ ≤ _; exact Nat.le_of_eq rfl) (hb hby at_30) (fun _ _ => ⟨rfl, e104, (by decide : 0 + 0 ≤ _), (by decide : 0 + 0 ≤ _)⟩)
    dsimp only [Pt.U, Pt.locs, Pt.cells, Pt.slots] at X105 l105 y105 z105 st105 hQ105
    subst l105 y105 z105
    obtain ⟨rfl, N105q, e105⟩ := hQ105
    have N105 := Fr.app N104 N105q
    obtain ⟨v5, hv5⟩ : ∃ z : Int32, z = (if (own_r2 p1 (1 : Int32) (1 : Int32)) = (own_r3 v1 p1) then (1 : Int32) else (0 : Int32)) := ⟨_, rfl⟩
    obtain ⟨T108, lc108, X108, N108, e108, st108⟩ := own_mrg (n0 := n0) (h := h0) (g := (mkF m 33 #[.val (.int p0), .val (.int p1), .val (.int p2), .val (.int v1), .val (.ref u_BuiltInCall_BuiltIn_STR), .val (.int v3), .unset, .unset] [(.int (own_r3 v1 p1)), (.int (own_r2 p1 (1 : Int32) (1 : Int32)))])) (g' := (mkF m 41 #[.val (.int p0), .val (.int p1), .val (.int p2), .val (.int v1), .val (.ref u_BuiltInCall_BuiltIn_STR), .val (.int v3), .unset, .unset] [(.int v5)])) X105 (by
      by_cases hc33_4 : (own_r2 p1 (1 : Int32) (1 : Int32)) = (own_r3 v1 p1)
      · have hgo106 : ∀ t, Steps p.tables e below (T105.setTop (mkF m 41 #[.val (.int p0), .val (.int p1), .val (.int p2), .val (.int v1), .val (.ref u_BuiltInCall_BuiltIn_STR), .val (.int v3), .unset, .unset] [(.int (1 : Int32))])) t → Steps p.tables e below (T105.setTop (mkF m 33 #[.val (.int p0), .val (.int p1), .val (.int p2), .val (.int v1), .val (.ref u_BuiltInCall_BuiltIn_STR), .val (.int v3), .unset, .unset] [(.int (own_r3 v1 p1)), (.int (own_r2 p1 (1 : Int32) (1 : Int32)))])) t := by
          intro t kt
          show Steps p.tables e below (T105.setTop (mkF m 33 #[.val (.int p0), .val (.int p1), .val (.int p2), .val (.int v1), .val (.ref u_BuiltInCall_BuiltIn_STR), .val (.int v3), .unset, .unset] [(.int (own_r3 v1 p1)), (.int (own_r2 p1 (1 : Int32) (1 : Int32)))])) _
          refine XS.icmpNo X105.here hx rfl (hb hby at_33) rfl (teq hc33_4).2 ?_
          show Steps p.tables e below (T105.setTop (mkF m 36 #[.val (.int p0), .val (.int p1), .val (.int p2), .val (.int v1), .val (.ref u_BuiltInCall_BuiltIn_STR), .val (.int v3), .unset, .unset] [])) _
          refine XS.iconst X105.here hx rfl (hb hby at_36) ?_
          show Steps p.tables e below (T105.setTop (mkF m 37 #[.val (.int p0), .val (.int p1), .val (.int p2), .val (.int v1), .val (.ref u_BuiltInCall_BuiltIn_STR), .val (.int v3), .unset, .unset] [(.int (1 : Int32))])) _
          refine XS.goto X105.here hx rfl (pc0 := 37) (pc' := 41) rfl (hb hby at_37) (by decide) (by decide) ?_
          exact kt
        refine own_arm hgo106 ?_
        exact own_armEnd X105 N105 e105 (by rw [hv5.trans (if_pos hc33_4)])
      · have hgo107 : ∀ t, Steps p.tables e below (T105.setTop (mkF m 41 #[.val (.int p0), .val (.int p1), .val (.int p2), .val (.int v1), .val (.ref u_BuiltInCall_BuiltIn_STR), .val (.int v3), .unset, .unset] [(.int (0 : Int32))])) t → Steps p.tables e below (T105.setTop (mkF m 33 #[.val (.int p0), .val (.int p1), .val (.int p2), .val (.int v1), .val (.ref u_BuiltInCall_BuiltIn_STR), .val (.int v3), .unset, .unset] [(.int (own_r3 v1 p1)), (.int (own_r2 p1 (1 : Int32) (1 : Int32)))])) t := by
          intro t kt
          show Steps p.tables e below (T105.setTop (mkF m 33 #[.val (.int p0), .val (.int p1), .val (.int p2), .val (.int v1), .val (.ref u_BuiltInCall_BuiltIn_STR), .val (.int v3), .unset, .unset] [(.int (own_r3 v1 p1)), (.int (own_r2 p1 (1 : Int32) (1 : Int32)))])) _
          refine XS.icmpYes X105.here hx rfl (pc0 := 33) (pc' := 40) rfl (hb hby at_33) rfl (feq hc33_4).2 (by decide) (by decide) ?_
          show Steps p.tables e below (T105.setTop (mkF m 40 #[.val (.int p0), .val (.int p1), .val (.int p2), .val (.int v1), .val (.ref u_BuiltInCall_BuiltIn_STR), .val (.int v3), .unset, .unset] [])) _
          refine XS.iconst X105.here hx rfl (hb hby at_40) ?_
          exact kt
        refine own_arm hgo107 ?_
        exact own_armEnd X105 N105 e105 (by rw [hv5.trans (if_neg hc33_4)]))
    obtain ⟨cq109, kq109, q109a, q109b, q109c⟩ := isOf hZ e108 E_u_BuiltInCall_BuiltIn_STR
    obtain ⟨_, _, ⟨T109, L109, k109, n109⟩, -, X109, ⟨Lc109, hQ109, l109, y109, z109⟩, st109⟩ := X108.virtualBack hx (y := (⟨"com/example/muset/muset/sparql/BuiltInCall$BuiltIn", "takes", "(I)Z"⟩ : MethodName)) (z := (⟨"com/example/muset/muset/sparql/BuiltInCall$BuiltIn", "takes", "(I)Z"⟩ : MethodName)) hown (mvT hZ (hw _ (List.mem_of_getElem? (i := 8) rfl))) (mvT hZ (hw _ (List.mem_of_getElem? (i := 9) rfl))) (notFace_of_selects (args := #[]) (mvT hZ (hw _ (List.mem_of_getElem? (i := 11) rfl)))) (mvT hZ (hw _ (List.mem_of_getElem? (i := 11) rfl))) (mvT hZ (hw _ (List.mem_of_getElem? (i := 10) rfl))) (by decide) (backOf (W := 0) (rm2 l Z a0 hw [] u_BuiltInCall_BuiltIn_STR v3 (1 : Int32) (1 : Int32) h0 n0 Z0 F_minArguments_u_BuiltInCall_BuiltIn_STR F_maxArguments_u_BuiltInCall_BuiltIn_STR) hZ (hw _ (List.mem_of_getElem? (i := 12) rfl)) (hw _ (List.mem_of_getElem? (i := 6) rfl)) (by decide) (by decide)) q109a q109c (g := (mkF m 47 #[.val (.int p0), .val (.int p1), .val (.int p2), .val (.int v1), .val (.ref u_BuiltInCall_BuiltIn_STR), .val (.int v3), .val (.int v5), .unset] [(.int v3), (.ref u_BuiltInCall_BuiltIn_STR)])) rfl (by rw [hml]; rfl) (Steps.refl _) (argsL := [(.int v3)]) (rest := []) (lenOf pd3 rfl) rfl (by show 2 * 0 + _ ≤ _; exact Nat.le_of_eq rfl) (hb hby at_47) (fun _ _ => ⟨rfl, e108, (by decide : 0 + 0 ≤ _), (by decide : 0 + 0 ≤ _)⟩)
    dsimp only [Pt.U, Pt.locs, Pt.cells, Pt.slots] at X109 l109 y109 z109 st109 hQ109
    subst l109 y109 z109
    obtain ⟨rfl, N109q, e109⟩ := hQ109
    have N109 := Fr.app N108 N109q
    obtain ⟨_, _, ⟨T110, L110, k110, n110⟩, -, X110, ⟨Lc110, hQ110, l110, y110, z110⟩, st110⟩ := Jvm.LawKit.callS X109 hx (y := (⟨"com/example/muset/muset/sparql/BuiltInTakesPinLaw", "expected", "(II)Z"⟩ : MethodName)) hown (mvT hZ (hw _ (List.mem_of_getElem? (i := 17) rfl))) (mvT hZ (hw _ (List.mem_of_getElem? (i := 18) rfl))) (mvT hZ (hw _ (List.mem_of_getElem? (i := 3) rfl))) (mvT hZ (hw _ (List.mem_of_getElem? (i := 19) rfl))) (by decide) (backOf (W := 1) (rm3 l Z a0 hw [] v1 v3 h0 n0 Z0 ) hZ (hw _ (List.mem_of_getElem? (i := 19) rfl)) (hw _ (List.mem_of_getElem? (i := 3) rfl)) (by decide) (by decide)) (g := (mkF m 53 #[.val (.int p0), .val (.int p1), .val (.int p2), .val (.int v1), .val (.ref u_BuiltInCall_BuiltIn_STR), .val (.int v3), .val (.int v5), .unset] [(.int v3), (.int v1), (.int (own_r2 v3 (1 : Int32) (1 : Int32)))])) rfl (by rw [hml]; rfl) (argsL := [(.int v1), (.int v3)]) (rest := [(.int (own_r2 v3 (1 : Int32) (1 : Int32)))]) (lenOf pd4 rfl) rfl (by show 2 * 0 + _ ≤ _; exact Nat.le_of_eq rfl) (hb hby at_53) (fun _ _ => ⟨rfl, e109, (by decide : 0 + 0 ≤ _), (by decide : 0 + 0 ≤ _)⟩)
    dsimp only [Pt.U, Pt.locs, Pt.cells, Pt.slots] at X110 l110 y110 z110 st110 hQ110
    subst l110 y110 z110
    obtain ⟨rfl, N110q, e110⟩ := hQ110
    have N110 := Fr.app N109 N110q
    obtain ⟨v7, hv7⟩ : ∃ z : Int32, z = (if (own_r2 v3 (1 : Int32) (1 : Int32)) = (own_r3 v1 v3) then (1 : Int32) else (0 : Int32)) := ⟨_, rfl⟩
    obtain ⟨T113, lc113, X113, N113, e113, st113⟩ := own_mrg (n0 := n0) (h := h0) (g := (mkF m 56 #[.val (.int p0), .val (.int p1), .val (.int p2), .val (.int v1), .val (.ref u_BuiltInCall_BuiltIn_STR), .val (.int v3), .val (.int v5), .unset] [(.int (own_r3 v1 v3)), (.int (own_r2 v3 (1 : Int32) (1 : Int32)))])) (g' := (mkF m 64 #[.val (.int p0), .val (.int p1), .val (.int p2), .val (.int v1), .val (.ref u_BuiltInCall_BuiltIn_STR), .val (.int v3), .val (.int v5), .unset] [(.int v7)])) X110 (by
      by_cases hc56_6 : (own_r2 v3 (1 : Int32) (1 : Int32)) = (own_r3 v1 v3)
      · have hgo111 : ∀ t, Steps p.tables e below (T110.setTop (mkF m 64 #[.val (.int p0), .val (.int p1), .val (.int p2), .val (.int v1), .val (.ref u_BuiltInCall_BuiltIn_STR), .val (.int v3), .val (.int v5), .unset] [(.int (1 : Int32))])) t → Steps p.tables e below (T110.setTop (mkF m 56 #[.val (.int p0), .val (.int p1), .val (.int p2), .val (.int v1), .val (.ref u_BuiltInCall_BuiltIn_STR), .val (.int v3), .val (.int v5), .unset] [(.int (own_r3 v1 v3)), (.int (own_r2 v3 (1 : Int32) (1 : Int32)))])) t := by
          intro t kt
          show Steps p.tables e below (T110.setTop (mkF m 56 #[.val (.int p0), .val (.int p1), .val (.int p2), .val (.int v1), .val (.ref u_BuiltInCall_BuiltIn_STR), .val (.int v3), .val (.int v5), .unset] [(.int (own_r3 v1 v3)), (.int (own_r2 v3 (1 : Int32) (1 : Int32)))])) _
          refine XS.icmpNo X110.here hx rfl (hb hby at_56) rfl (teq hc56_6).2 ?_
          show Steps p.tables e below (T110.setTop (mkF m 59 #[.val (.int p0), .val (.int p1), .val (.int p2), .val (.int v1), .val (.ref u_BuiltInCall_BuiltIn_STR), .val (.int v3), .val (.int v5), .unset] [])) _
          refine XS.iconst X110.here hx rfl (hb hby at_59) ?_
          show Steps p.tables e below (T110.setTop (mkF m 60 #[.val (.int p0), .val (.int p1), .val (.int p2), .val (.int v1), .val (.ref u_BuiltInCall_BuiltIn_STR), .val (.int v3), .val (.int v5), .unset] [(.int (1 : Int32))])) _
          refine XS.goto X110.here hx rfl (pc0 := 60) (pc' := 64) rfl (hb hby at_60) (by decide) (by decide) ?_
          exact kt
        refine own_arm hgo111 ?_
        exact own_armEnd X110 N110 e110 (by rw [hv7.trans (if_pos hc56_6)])
      · have hgo112 : ∀ t, Steps p.tables e below (T110.setTop (mkF m 64 #[.val (.int p0), .val (.int p1), .val (.int p2), .val (.int v1), .val (.ref u_BuiltInCall_BuiltIn_STR), .val (.int v3), .val (.int v5), .unset] [(.int (0 : Int32))])) t → Steps p.tables e below (T110.setTop (mkF m 56 #[.val (.int p0), .val (.int p1), .val (.int p2), .val (.int v1), .val (.ref u_BuiltInCall_BuiltIn_STR), .val (.int v3), .val (.int v5), .unset] [(.int (own_r3 v1 v3)), (.int (own_r2 v3 (1 : Int32) (1 : Int32)))])) t := by
          intro t kt
          show Steps p.tables e below (T110.setTop (mkF m 56 #[.val (.int p0), .val (.int p1), .val (.int p2), .val (.int v1), .val (.ref u_BuiltInCall_BuiltIn_STR), .val (.int v3), .val (.int v5), .unset] [(.int (own_r3 v1 v3)), (.int (own_r2 v3 (1 : Int32) (1 : Int32)))])) _
          refine XS.icmpYes X110.here hx rfl (pc0 := 56) (pc' := 63) rfl (hb hby at_56) rfl (feq hc56_6).2 (by decide) (by decide) ?_
          show Steps p.tables e below (T110.setTop (mkF m 63 #[.val (.int p0), .val (.int p1), .val (.int p2), .val (.int v1), .val (.ref u_BuiltInCall_BuiltIn_STR), .val (.int v3), .val (.int v5), .unset] [])) _
          refine XS.iconst X110.here hx rfl (hb hby at_63) ?_
          exact kt
        refine own_arm hgo112 ?_
        exact own_armEnd X110 N110 e110 (by rw [hv7.trans (if_neg hc56_6)]))
    obtain ⟨v10, hv10⟩ : ∃ z : Int32, z = (if v7 = (0 : Int32) then (0 : Int32) else (1 : Int32)) := ⟨_, rfl⟩
    obtain ⟨v11, hv11⟩ : ∃ z : Int32, z = (if v5 = (0 : Int32) then (0 : Int32) else v10) := ⟨_, rfl⟩
    obtain ⟨T119, lc119, X119, N119, e119, st119⟩ := own_mrg (n0 := n0) (h := h0) (g := (mkF m 68 #[.val (.int p0), .val (.int p1), .val (.int p2), .val (.int v1), .val (.ref u_BuiltInCall_BuiltIn_STR), .val (.int v3), .val (.int v5), .val (.int v7)] [(.int v5)])) (g' := (mkF m 81 #[.val (.int p0), .val (.int p1), .val (.int p2), .val (.int v1), .val (.ref u_BuiltInCall_BuiltIn_STR), .val (.int v3), .val (.int v5), .val (.int v7)] [(.int v11)])) X113 (by
      by_cases hc68_8 : v5 = (0 : Int32)
      · have hgo114 : ∀ t, Steps p.tables e below (T113.setTop (mkF m 81 #[.val (.int p0), .val (.int p1), .val (.int p2), .val (.int v1), .val (.ref u_BuiltInCall_BuiltIn_STR), .val (.int v3), .val (.int v5), .val (.int v7)] [(.int (0 : Int32))])) t → Steps p.tables e below (T113.setTop (mkF m 68 #[.val (.int p0), .val (.int p1), .val (.int p2), .val (.int v1), .val (.ref u_BuiltInCall_BuiltIn_STR), .val (.int v3), .val (.int v5), .val (.int v7)] [(.int v5)])) t := by
          intro t kt
          show Steps p.tables e below (T113.setTop (mkF m 68 #[.val (.int p0), .val (.int p1), .val (.int p2), .val (.int v1), .val (.ref u_BuiltInCall_BuiltIn_STR), .val (.int v3), .val (.int v5), .val (.int v7)] [(.int v5)])) _
          refine XS.ifYes X113.here hx rfl (pc0 := 68) (pc' := 80) rfl (hb hby at_68) rfl ((if0 _ _).trans (teq hc68_8).1) (by decide) (by decide) ?_
          show Steps p.tables e below (T113.setTop (mkF m 80 #[.val (.int p0), .val (.int p1), .val (.int p2), .val (.int v1), .val (.ref u_BuiltInCall_BuiltIn_STR), .val (.int v3), .val (.int v5), .val (.int v7)] [])) _
          refine XS.iconst X113.here hx rfl (hb hby at_80) ?_
          exact kt
        refine own_arm hgo114 ?_
        exact own_armEnd X113 N113 e113 (by rw [hv11.trans (if_pos hc68_8)])
      · obtain ⟨T117, lc117, X117, N117, e117, st117⟩ := own_mrg (n0 := n0) (h := h0) (g := (mkF m 73 #[.val (.int p0), .val (.int p1), .val (.int p2), .val (.int v1), .val (.ref u_BuiltInCall_BuiltIn_STR), .val (.int v3), .val (.int v5), .val (.int v7)] [(.int v7)])) (g' := (mkF m 81 #[.val (.int p0), .val (.int p1), .val (.int p2), .val (.int v1), .val (.ref u_BuiltInCall_BuiltIn_STR), .val (.int v3), .val (.int v5), .val (.int v7)] [(.int v10)])) X113 (by
          by_cases hc73_9 : v7 = (0 : Int32)
          · have hgo115 : ∀ t, Steps p.tables e below (T113.setTop (mkF m 81 #[.val (.int p0), .val (.int p1), .val (.int p2), .val (.int v1), .val (.ref u_BuiltInCall_BuiltIn_STR), .val (.int v3), .val (.int v5), .val (.int v7)] [(.int (0 : Int32))])) t → Steps p.tables e below (T113.setTop (mkF m 73 #[.val (.int p0), .val (.int p1), .val (.int p2), .val (.int v1), .val (.ref u_BuiltInCall_BuiltIn_STR), .val (.int v3), .val (.int v5), .val (.int v7)] [(.int v7)])) t := by
              intro t kt
              show Steps p.tables e below (T113.setTop (mkF m 73 #[.val (.int p0), .val (.int p1), .val (.int p2), .val (.int v1), .val (.ref u_BuiltInCall_BuiltIn_STR), .val (.int v3), .val (.int v5), .val (.int v7)] [(.int v7)])) _
              refine XS.ifYes X113.here hx rfl (pc0 := 73) (pc' := 80) rfl (hb hby at_73) rfl ((if0 _ _).trans (teq hc73_9).1) (by decide) (by decide) ?_
              show Steps p.tables e below (T113.setTop (mkF m 80 #[.val (.int p0), .val (.int p1), .val (.int p2), .val (.int v1), .val (.ref u_BuiltInCall_BuiltIn_STR), .val (.int v3), .val (.int v5), .val (.int v7)] [])) _
              refine XS.iconst X113.here hx rfl (hb hby at_80) ?_
              exact kt
            refine own_arm hgo115 ?_
            exact own_armEnd X113 N113 e113 (by rw [hv10.trans (if_pos hc73_9)])
          · have hgo116 : ∀ t, Steps p.tables e below (T113.setTop (mkF m 81 #[.val (.int p0), .val (.int p1), .val (.int p2), .val (.int v1), .val (.ref u_BuiltInCall_BuiltIn_STR), .val (.int v3), .val (.int v5), .val (.int v7)] [(.int (1 : Int32))])) t → Steps p.tables e below (T113.setTop (mkF m 73 #[.val (.int p0), .val (.int p1), .val (.int p2), .val (.int v1), .val (.ref u_BuiltInCall_BuiltIn_STR), .val (.int v3), .val (.int v5), .val (.int v7)] [(.int v7)])) t := by
              intro t kt
              show Steps p.tables e below (T113.setTop (mkF m 73 #[.val (.int p0), .val (.int p1), .val (.int p2), .val (.int v1), .val (.ref u_BuiltInCall_BuiltIn_STR), .val (.int v3), .val (.int v5), .val (.int v7)] [(.int v7)])) _
              refine XS.ifNo X113.here hx rfl (hb hby at_73) rfl ((if0 _ _).trans (feq hc73_9).1) ?_
              show Steps p.tables e below (T113.setTop (mkF m 76 #[.val (.int p0), .val (.int p1), .val (.int p2), .val (.int v1), .val (.ref u_BuiltInCall_BuiltIn_STR), .val (.int v3), .val (.int v5), .val (.int v7)] [])) _
              refine XS.iconst X113.here hx rfl (hb hby at_76) ?_
              show Steps p.tables e below (T113.setTop (mkF m 77 #[.val (.int p0), .val (.int p1), .val (.int p2), .val (.int v1), .val (.ref u_BuiltInCall_BuiltIn_STR), .val (.int v3), .val (.int v5), .val (.int v7)] [(.int (1 : Int32))])) _
              refine XS.goto X113.here hx rfl (pc0 := 77) (pc' := 81) rfl (hb hby at_77) (by decide) (by decide) ?_
              exact kt
            refine own_arm hgo116 ?_
            exact own_armEnd X113 N113 e113 (by rw [hv10.trans (if_neg hc73_9)]))
        have hgo118 : ∀ t, Steps p.tables e below (T117.setTop (mkF m 81 #[.val (.int p0), .val (.int p1), .val (.int p2), .val (.int v1), .val (.ref u_BuiltInCall_BuiltIn_STR), .val (.int v3), .val (.int v5), .val (.int v7)] [(.int v10)])) t → Steps p.tables e below (T113.setTop (mkF m 68 #[.val (.int p0), .val (.int p1), .val (.int p2), .val (.int v1), .val (.ref u_BuiltInCall_BuiltIn_STR), .val (.int v3), .val (.int v5), .val (.int v7)] [(.int v5)])) t := by
          intro t kt
          show Steps p.tables e below (T113.setTop (mkF m 68 #[.val (.int p0), .val (.int p1), .val (.int p2), .val (.int v1), .val (.ref u_BuiltInCall_BuiltIn_STR), .val (.int v3), .val (.int v5), .val (.int v7)] [(.int v5)])) _
          refine XS.ifNo X113.here hx rfl (hb hby at_68) rfl ((if0 _ _).trans (feq hc68_8).1) ?_
          show Steps p.tables e below (T113.setTop (mkF m 71 #[.val (.int p0), .val (.int p1), .val (.int p2), .val (.int v1), .val (.ref u_BuiltInCall_BuiltIn_STR), .val (.int v3), .val (.int v5), .val (.int v7)] [])) _
          refine XS.iload X113.here hx rfl (hb hby at_71) rfl ?_
          show Steps p.tables e below (T113.setTop (mkF m 73 #[.val (.int p0), .val (.int p1), .val (.int p2), .val (.int v1), .val (.ref u_BuiltInCall_BuiltIn_STR), .val (.int v3), .val (.int v5), .val (.int v7)] [(.int v7)])) _
          refine st117 _ ?_
          exact kt
        refine own_arm hgo118 ?_
        exact own_armEnd X117 N117 e117 (by rw [hv11.trans (if_neg hc68_8)]))
    have hgo120 : ∀ t, Steps p.tables e below (T119.setTop (mkF m 81 #[.val (.int p0), .val (.int p1), .val (.int p2), .val (.int v1), .val (.ref u_BuiltInCall_BuiltIn_STR), .val (.int v3), .val (.int v5), .val (.int v7)] [(.int v11)])) t → Steps p.tables e below (s₁.setTop (mkF m 9 #[.val (.int p0), .val (.int p1), .val (.int p2), .val (.int v1), .unset, .unset, .unset, .unset] [(.int v1)])) t := by
      intro t kt
      show Steps p.tables e below (s₁.setTop (mkF m 9 #[.val (.int p0), .val (.int p1), .val (.int p2), .val (.int v1), .unset, .unset, .unset, .unset] [(.int v1)])) _
      refine st103 _ ?_
      show Steps p.tables e below (T103.setTop (mkF m 12 #[.val (.int p0), .val (.int p1), .val (.int p2), .val (.int v1), .unset, .unset, .unset, .unset] [(.ref u_BuiltInCall_BuiltIn_STR)])) _
      refine XS.astore X103.here hx rfl (hb hby at_12) rfl rfl (l' := #[.val (.int p0), .val (.int p1), .val (.int p2), .val (.int v1), .val (.ref u_BuiltInCall_BuiltIn_STR), .unset, .unset, .unset]) rfl ?_
      show Steps p.tables e below (T103.setTop (mkF m 14 #[.val (.int p0), .val (.int p1), .val (.int p2), .val (.int v1), .val (.ref u_BuiltInCall_BuiltIn_STR), .unset, .unset, .unset] [])) _
      refine XS.iloadN X103.here hx rfl (hb hby at_14) rfl ?_
      show Steps p.tables e below (T103.setTop (mkF m 15 #[.val (.int p0), .val (.int p1), .val (.int p2), .val (.int v1), .val (.ref u_BuiltInCall_BuiltIn_STR), .unset, .unset, .unset] [(.int p2)])) _
      refine XS.bipush X103.here hx rfl (hb hby at_15) ?_
      show Steps p.tables e below (T103.setTop (mkF m 17 #[.val (.int p0), .val (.int p1), .val (.int p2), .val (.int v1), .val (.ref u_BuiltInCall_BuiltIn_STR), .unset, .unset, .unset] [(.int (7 : Int32)), (.int p2)])) _
      refine XS.iand X103.here hx rfl (hb hby at_17) rfl ?_
      show Steps p.tables e below (T103.setTop (mkF m 18 #[.val (.int p0), .val (.int p1), .val (.int p2), .val (.int v1), .val (.ref u_BuiltInCall_BuiltIn_STR), .unset, .unset, .unset] [(.int (p2 &&& (7 : Int32)))])) _
      refine XS.iconst X103.here hx rfl (hb hby at_18) ?_
      show Steps p.tables e below (T103.setTop (mkF m 19 #[.val (.int p0), .val (.int p1), .val (.int p2), .val (.int v1), .val (.ref u_BuiltInCall_BuiltIn_STR), .unset, .unset, .unset] [(.int (2 : Int32)), (.int (p2 &&& (7 : Int32)))])) _
      refine XS.isub X103.here hx rfl (hb hby at_19) rfl ?_
      show Steps p.tables e below (T103.setTop (mkF m 20 #[.val (.int p0), .val (.int p1), .val (.int p2), .val (.int v1), .val (.ref u_BuiltInCall_BuiltIn_STR), .unset, .unset, .unset] [(.int ((p2 &&& (7 : Int32)) - (2 : Int32)))])) _
      rw [← hv3]
      show Steps p.tables e below (T103.setTop (mkF m 20 #[.val (.int p0), .val (.int p1), .val (.int p2), .val (.int v1), .val (.ref u_BuiltInCall_BuiltIn_STR), .unset, .unset, .unset] [(.int v3)])) _
      refine XS.istore X103.here hx rfl (hb hby at_20) rfl (l' := #[.val (.int p0), .val (.int p1), .val (.int p2), .val (.int v1), .val (.ref u_BuiltInCall_BuiltIn_STR), .val (.int v3), .unset, .unset]) rfl ?_
      show Steps p.tables e below (T103.setTop (mkF m 22 #[.val (.int p0), .val (.int p1), .val (.int p2), .val (.int v1), .val (.ref u_BuiltInCall_BuiltIn_STR), .val (.int v3), .unset, .unset] [])) _
      refine XS.aload X103.here hx rfl (hb hby at_22) rfl rfl ?_
      show Steps p.tables e below (T103.setTop (mkF m 24 #[.val (.int p0), .val (.int p1), .val (.int p2), .val (.int v1), .val (.ref u_BuiltInCall_BuiltIn_STR), .val (.int v3), .unset, .unset] [(.ref u_BuiltInCall_BuiltIn_STR)])) _
      refine XS.iloadN X103.here hx rfl (hb hby at_24) rfl ?_
      show Steps p.tables e below (T103.setTop (mkF m 25 #[.val (.int p0), .val (.int p1), .val (.int p2), .val (.int v1), .val (.ref u_BuiltInCall_BuiltIn_STR), .val (.int v3), .unset, .unset] [(.int p1), (.ref u_BuiltInCall_BuiltIn_STR)])) _
      refine st104.trans ?_
      show Steps p.tables e below (T104.setTop (mkF m 28 #[.val (.int p0), .val (.int p1), .val (.int p2), .val (.int v1), .val (.ref u_BuiltInCall_BuiltIn_STR), .val (.int v3), .unset, .unset] [(.int (own_r2 p1 (1 : Int32) (1 : Int32)))])) _
      refine XS.iloadN X104.here hx rfl (hb hby at_28) rfl ?_
      show Steps p.tables e below (T104.setTop (mkF m 29 #[.val (.int p0), .val (.int p1), .val (.int p2), .val (.int v1), .val (.ref u_BuiltInCall_BuiltIn_STR), .val (.int v3), .unset, .unset] [(.int v1), (.int (own_r2 p1 (1 : Int32) (1 : Int32)))])) _
      refine XS.iloadN X104.here hx rfl (hb hby at_29) rfl ?_
      show Steps p.tables e below (T104.setTop (mkF m 30 #[.val (.int p0), .val (.int p1), .val (.int p2), .val (.int v1), .val (.ref u_BuiltInCall_BuiltIn_STR), .val (.int v3), .unset, .unset] [(.int p1), (.int v1), (.int (own_r2 p1 (1 : Int32) (1 : Int32)))])) _
      refine st105 _ ?_
      show Steps p.tables e below (T105.setTop (mkF m 33 #[.val (.int p0), .val (.int p1), .val (.int p2), .val (.int v1), .val (.ref u_BuiltInCall_BuiltIn_STR), .val (.int v3), .unset, .unset] [(.int (own_r3 v1 p1)), (.int (own_r2 p1 (1 : Int32) (1 : Int32)))])) _
      refine st108 _ ?_
      show Steps p.tables e below (T108.setTop (mkF m 41 #[.val (.int p0), .val (.int p1), .val (.int p2), .val (.int v1), .val (.ref u_BuiltInCall_BuiltIn_STR), .val (.int v3), .unset, .unset] [(.int v5)])) _
      refine XS.istore X108.here hx rfl (hb hby at_41) rfl (l' := #[.val (.int p0), .val (.int p1), .val (.int p2), .val (.int v1), .val (.ref u_BuiltInCall_BuiltIn_STR), .val (.int v3), .val (.int v5), .unset]) rfl ?_
      show Steps p.tables e below (T108.setTop (mkF m 43 #[.val (.int p0), .val (.int p1), .val (.int p2), .val (.int v1), .val (.ref u_BuiltInCall_BuiltIn_STR), .val (.int v3), .val (.int v5), .unset] [])) _
      refine XS.aload X108.here hx rfl (hb hby at_43) rfl rfl ?_
      show Steps p.tables e below (T108.setTop (mkF m 45 #[.val (.int p0), .val (.int p1), .val (.int p2), .val (.int v1), .val (.ref u_BuiltInCall_BuiltIn_STR), .val (.int v3), .val (.int v5), .unset] [(.ref u_BuiltInCall_BuiltIn_STR)])) _
      refine XS.iload X108.here hx rfl (hb hby at_45) rfl ?_
      show Steps p.tables e below (T108.setTop (mkF m 47 #[.val (.int p0), .val (.int p1), .val (.int p2), .val (.int v1), .val (.ref u_BuiltInCall_BuiltIn_STR), .val (.int v3), .val (.int v5), .unset] [(.int v3), (.ref u_BuiltInCall_BuiltIn_STR)])) _
      refine st109.trans ?_
      show Steps p.tables e below (T109.setTop (mkF m 50 #[.val (.int p0), .val (.int p1), .val (.int p2), .val (.int v1), .val (.ref u_BuiltInCall_BuiltIn_STR), .val (.int v3), .val (.int v5), .unset] [(.int (own_r2 v3 (1 : Int32) (1 : Int32)))])) _
      refine XS.iloadN X109.here hx rfl (hb hby at_50) rfl ?_
      show Steps p.tables e below (T109.setTop (mkF m 51 #[.val (.int p0), .val (.int p1), .val (.int p2), .val (.int v1), .val (.ref u_BuiltInCall_BuiltIn_STR), .val (.int v3), .val (.int v5), .unset] [(.int v1), (.int (own_r2 v3 (1 : Int32) (1 : Int32)))])) _
      refine XS.iload X109.here hx rfl (hb hby at_51) rfl ?_
      show Steps p.tables e below (T109.setTop (mkF m 53 #[.val (.int p0), .val (.int p1), .val (.int p2), .val (.int v1), .val (.ref u_BuiltInCall_BuiltIn_STR), .val (.int v3), .val (.int v5), .unset] [(.int v3), (.int v1), (.int (own_r2 v3 (1 : Int32) (1 : Int32)))])) _
      refine st110 _ ?_
      show Steps p.tables e below (T110.setTop (mkF m 56 #[.val (.int p0), .val (.int p1), .val (.int p2), .val (.int v1), .val (.ref u_BuiltInCall_BuiltIn_STR), .val (.int v3), .val (.int v5), .unset] [(.int (own_r3 v1 v3)), (.int (own_r2 v3 (1 : Int32) (1 : Int32)))])) _
      refine st113 _ ?_
      show Steps p.tables e below (T113.setTop (mkF m 64 #[.val (.int p0), .val (.int p1), .val (.int p2), .val (.int v1), .val (.ref u_BuiltInCall_BuiltIn_STR), .val (.int v3), .val (.int v5), .unset] [(.int v7)])) _
      refine XS.istore X113.here hx rfl (hb hby at_64) rfl (l' := #[.val (.int p0), .val (.int p1), .val (.int p2), .val (.int v1), .val (.ref u_BuiltInCall_BuiltIn_STR), .val (.int v3), .val (.int v5), .val (.int v7)]) rfl ?_
      show Steps p.tables e below (T113.setTop (mkF m 66 #[.val (.int p0), .val (.int p1), .val (.int p2), .val (.int v1), .val (.ref u_BuiltInCall_BuiltIn_STR), .val (.int v3), .val (.int v5), .val (.int v7)] [])) _
      refine XS.iload X113.here hx rfl (hb hby at_66) rfl ?_
      show Steps p.tables e below (T113.setTop (mkF m 68 #[.val (.int p0), .val (.int p1), .val (.int p2), .val (.int v1), .val (.ref u_BuiltInCall_BuiltIn_STR), .val (.int v3), .val (.int v5), .val (.int v7)] [(.int v5)])) _
      refine st119 _ ?_
      exact kt
    refine own_go hgo120 ?_
    have hz121 : v11 = 1 := own_leaf0 (p0 := p0) (p1 := p1) (p2 := p2) (u_BuiltInCall_BuiltIn_STR := u_BuiltInCall_BuiltIn_STR) (u_BuiltInCall_BuiltIn_LANG := u_BuiltInCall_BuiltIn_LANG) (u_BuiltInCall_BuiltIn_SAME_TERM := u_BuiltInCall_BuiltIn_SAME_TERM) (u_BuiltInCall_BuiltIn_IS_IRI := u_BuiltInCall_BuiltIn_IS_IRI) (u_BuiltInCall_BuiltIn_IS_LITERAL := u_BuiltInCall_BuiltIn_IS_LITERAL) (u_BuiltInCall_BuiltIn_DATATYPE := u_BuiltInCall_BuiltIn_DATATYPE) (u_BuiltInCall_BuiltIn_IS_URI := u_BuiltInCall_BuiltIn_IS_URI) (u_BuiltInCall_BuiltIn_IS_BLANK := u_BuiltInCall_BuiltIn_IS_BLANK) (u_BuiltInCall_BuiltIn_REGEX := u_BuiltInCall_BuiltIn_REGEX) (u_BuiltInCall_BuiltIn_LANG_MATCHES := u_BuiltInCall_BuiltIn_LANG_MATCHES) hv1 hv3 hv5 hv7 hv10 hv11 hs9_2
    exact own_retZ X119 hx Bd.returns Bd.notSynchronized (hb hby at_81) (by decide) (by decide) (Or.inr hz121) ⟨by rw [hz121], N119⟩
  by_cases hs9_12 : v1 = (1 : Int32)
  · obtain ⟨_, _, ⟨T122, L122, k122, n122⟩, -, X122, ⟨Lc122, hQ122, l122, y122, z122⟩, st122⟩ := Jvm.LawKit.callS X0 hx (y := (⟨"com/example/muset/muset/sparql/BuiltInTakesPinLaw", "pick", "(I)Lcom/example/muset/muset/sparql/BuiltInCall$BuiltIn;"⟩ : MethodName)) hown (mvT hZ (hw _ (List.mem_of_getElem? (i := 1) rfl))) (mvT hZ (hw _ (List.mem_of_getElem? (i := 2) rfl))) (mvT hZ (hw _ (List.mem_of_getElem? (i := 3) rfl))) (mvT hZ (hw _ (List.mem_of_getElem? (i := 4) rfl))) (by decide) (backOf (W := 0) (rm1_1 l Z a0 hw [] v1 u_BuiltInCall_BuiltIn_LANG h0 n0 Z0 (by first | assumption | decide : ¬ (v1 = (0 : Int32))) (by first | assumption | decide : v1 = (1 : Int32)) S_u_BuiltInCall_BuiltIn_LANG) hZ (hw _ (List.mem_of_getElem? (i := 4) rfl)) (hw _ (List.mem_of_getElem? (i := 3) rfl)) (by decide) (by decide)) (g := (mkF m 9 #[.val (.int p0), .val (.int p1), .val (.int p2), .val (.int v1), .unset, .unset, .unset, .unset] [(.int v1)])) rfl (by rw [hml]; rfl) (argsL := [(.int v1)]) (rest := []) (lenOf pd2 rfl) rfl (by show 2 * 0 + _ ≤ _; exact Nat.le_of_eq rfl) (hb hby at_9) (fun _ _ => ⟨rfl, e0, (by decide : 0 + 0 ≤ _), (by decide : 0 + 0 ≤ _)⟩)
    dsimp only [Pt.U, Pt.locs, Pt.cells, Pt.slots] at X122 l122 y122 z122 st122 hQ122
    subst l122 y122 z122
    obtain ⟨rfl, N122q, e122⟩ := hQ122
    have N122 := Fr.app N0 N122q
    obtain ⟨v13, hv13⟩ : ∃ z : Int32, z = ((p2 &&& (7 : Int32)) - (2 : Int32)) := ⟨_, rfl⟩
    obtain ⟨cq123, kq123, q123a, q123b, q123c⟩ := isOf hZ e122 E_u_BuiltInCall_BuiltIn_LANG
    obtain ⟨_, _, ⟨T123, L123, k123, n123⟩, -, X123, ⟨Lc123, hQ123, l123, y123, z123⟩, st123⟩ := X122.virtualBack hx (y := (⟨"com/example/muset/muset/sparql/BuiltInCall$BuiltIn", "takes", "(I)Z"⟩ : MethodName)) (z := (⟨"com/example/muset/muset/sparql/BuiltInCall$BuiltIn", "takes", "(I)Z"⟩ : MethodName)) hown (mvT hZ (hw _ (List.mem_of_getElem? (i := 8) rfl))) (mvT hZ (hw _ (List.mem_of_getElem? (i := 9) rfl))) (notFace_of_selects (args := #[]) (mvT hZ (hw _ (List.mem_of_getElem? (i := 11) rfl)))) (mvT hZ (hw _ (List.mem_of_getElem? (i := 11) rfl))) (mvT hZ (hw _ (List.mem_of_getElem? (i := 10) rfl))) (by decide) (backOf (W := 0) (rm2 l Z a0 hw [] u_BuiltInCall_BuiltIn_LANG p1 (1 : Int32) (1 : Int32) h0 n0 Z0 F_minArguments_u_BuiltInCall_BuiltIn_LANG F_maxArguments_u_BuiltInCall_BuiltIn_LANG) hZ (hw _ (List.mem_of_getElem? (i := 12) rfl)) (hw _ (List.mem_of_getElem? (i := 6) rfl)) (by decide) (by decide)) q123a q123c (g := (mkF m 25 #[.val (.int p0), .val (.int p1), .val (.int p2), .val (.int v1), .val (.ref u_BuiltInCall_BuiltIn_LANG), .val (.int v13), .unset, .unset] [(.int p1), (.ref u_BuiltInCall_BuiltIn_LANG)])) rfl (by rw [hml]; rfl) (Steps.refl _) (argsL := [(.int p1)]) (rest := []) (lenOf pd3 rfl) rfl (by show 2 * 0 + _ ≤ _; exact Nat.le_of_eq rfl) (hb hby at_25) (fun _ _ => ⟨rfl, e122, (by decide : 0 + 0 ≤ _), (by decide : 0 + 0 ≤ _)⟩)
    dsimp only [Pt.U, Pt.locs, Pt.cells, Pt.slots] at X123 l123 y123 z123 st123 hQ123
    subst l123 y123 z123
    obtain ⟨rfl, N123q, e123⟩ := hQ123
    have N123 := Fr.app N122 N123q
    obtain ⟨_, _, ⟨T124, L124, k124, n124⟩, -, X124, ⟨Lc124, hQ124, l124, y124, z124⟩, st124⟩ := Jvm.LawKit.callS X123 hx (y := (⟨"com/example/muset/muset/sparql/BuiltInTakesPinLaw", "expected", "(II)Z"⟩ : MethodName)) hown (mvT hZ (hw _ (List.mem_of_getElem? (i := 17) rfl))) (mvT hZ (hw _ (List.mem_of_getElem? (i := 18) rfl))) (mvT hZ (hw _ (List.mem_of_getElem? (i := 3) rfl))) (mvT hZ (hw _ (List.mem_of_getElem? (i := 19) rfl))) (by decide) (backOf (W := 1) (rm3 l Z a0 hw [] v1 p1 h0 n0 Z0 ) hZ (hw _ (List.mem_of_getElem? (i := 19) rfl)) (hw _ (List.mem_of_getElem? (i := 3) rfl)) (by decide) (by decide)) (g := (mkF m 30 #[.val (.int p0), .val (.int p1), .val (.int p2), .val (.int v1), .val (.ref u_BuiltInCall_BuiltIn_LANG), .val (.int v13), .unset, .unset] [(.int p1), (.int v1), (.int (own_r2 p1 (1 : Int32) (1 : Int32)))])) rfl (by rw [hml]; rfl) (argsL := [(.int v1), (.int p1)]) (rest := [(.int (own_r2 p1 (1 : Int32) (1 : Int32)))]) (lenOf pd4 rfl) rfl (by show 2 * 0 + _ ≤ _; exact Nat.le_of_eq rfl) (hb hby at_30) (fun _ _ => ⟨rfl, e123, (by decide : 0 + 0 ≤ _), (by decide : 0 + 0 ≤ _)⟩)
    dsimp only [Pt.U, Pt.locs, Pt.cells, Pt.slots] at X124 l124 y124 z124 st124 hQ124
    subst l124 y124 z124
    obtain ⟨rfl, N124q, e124⟩ := hQ124
    have N124 := Fr.app N123 N124q
    obtain ⟨v15, hv15⟩ : ∃ z : Int32, z = (if (own_r2 p1 (1 : Int32) (1 : Int32)) = (own_r3 v1 p1) then (1 : Int32) else (0 : Int32)) := ⟨_, rfl⟩
    obtain ⟨T127, lc127, X127, N127, e127, st127⟩ := own_mrg (n0 := n0) (h := h0) (g := (mkF m 33 #[.val (.int p0), .val (.int p1), .val (.int p2), .val (.int v1), .val (.ref u_BuiltInCall_BuiltIn_LANG), .val (.int v13), .unset, .unset] [(.int (own_r3 v1 p1)), (.int (own_r2 p1 (1 : Int32) (1 : Int32)))])) (g' := (mkF m 41 #[.val (.int p0), .val (.int p1), .val (.int p2), .val (.int v1), .val (.ref u_BuiltInCall_BuiltIn_LANG), .val (.int v13), .unset, .unset] [(.int v15)])) X124 (by
      by_cases hc33_14 : (own_r2 p1 (1 : Int32) (1 : Int32)) = (own_r3 v1 p1)
      · have hgo125 : ∀ t, Steps p.tables e below (T124.setTop (mkF m 41 #[.val (.int p0), .val (.int p1), .val (.int p2), .val (.int v1), .val (.ref u_BuiltInCall_BuiltIn_LANG), .val (.int v13), .unset, .unset] [(.int (1 : Int32))])) t → Steps p.tables e below (T124.setTop (mkF m 33 #[.val (.int p0), .val (.int p1), .val (.int p2), .val (.int v1), .val (.ref u_BuiltInCall_BuiltIn_LANG), .val (.int v13), .unset, .unset] [(.int (own_r3 v1 p1)), (.int (own_r2 p1 (1 : Int32) (1 : Int32)))])) t := by
          intro t kt
          show Steps p.tables e below (T124.setTop (mkF m 33 #[.val (.int p0), .val (.int p1), .val (.int p2), .val (.int v1), .val (.ref u_BuiltInCall_BuiltIn_LANG), .val (.int v13), .unset, .unset] [(.int (own_r3 v1 p1)), (.int (own_r2 p1 (1 : Int32) (1 : Int32)))])) _
          refine XS.icmpNo X124.here hx rfl (hb hby at_33) rfl (teq hc33_14).2 ?_
          show Steps p.tables e below (T124.setTop (mkF m 36 #[.val (.int p0), .val (.int p1), .val (.int p2), .val (.int v1), .val (.ref u_BuiltInCall_BuiltIn_LANG), .val (.int v13), .unset, .unset] [])) _
          refine XS.iconst X124.here hx rfl (hb hby at_36) ?_
          show Steps p.tables e below (T124.setTop (mkF m 37 #[.val (.int p0), .val (.int p1), .val (.int p2), .val (.int v1), .val (.ref u_BuiltInCall_BuiltIn_LANG), .val (.int v13), .unset, .unset] [(.int (1 : Int32))])) _
          refine XS.goto X124.here hx rfl (pc0 := 37) (pc' := 41) rfl (hb hby at_37) (by decide) (by decide) ?_
          exact kt
        refine own_arm hgo125 ?_
        exact own_armEnd X124 N124 e124 (by rw [hv15.trans (if_pos hc33_14)])
      · have hgo126 : ∀ t, Steps p.tables e below (T124.setTop (mkF m 41 #[.val (.int p0), .val (.int p1), .val (.int p2), .val (.int v1), .val (.ref u_BuiltInCall_BuiltIn_LANG), .val (.int v13), .unset, .unset] [(.int (0 : Int32))])) t → Steps p.tables e below (T124.setTop (mkF m 33 #[.val (.int p0), .val (.int p1), .val (.int p2), .val (.int v1), .val (.ref u_BuiltInCall_BuiltIn_LANG), .val (.int v13), .unset, .unset] [(.int (own_r3 v1 p1)), (.int (own_r2 p1 (1 : Int32) (1 : Int32)))])) t := by
          intro t kt
          show Steps p.tables e below (T124.setTop (mkF m 33 #[.val (.int p0), .val (.int p1), .val (.int p2), .val (.int v1), .val (.ref u_BuiltInCall_BuiltIn_LANG), .val (.int v13), .unset, .unset] [(.int (own_r3 v1 p1)), (.int (own_r2 p1 (1 : Int32) (1 : Int32)))])) _
          refine XS.icmpYes X124.here hx rfl (pc0 := 33) (pc' := 40) rfl (hb hby at_33) rfl (feq hc33_14).2 (by decide) (by decide) ?_
          show Steps p.tables e below (T124.setTop (mkF m 40 #[.val (.int p0), .val (.int p1), .val (.int p2), .val (.int v1), .val (.ref u_BuiltInCall_BuiltIn_LANG), .val (.int v13), .unset, .unset] [])) _
          refine XS.iconst X124.here hx rfl (hb hby at_40) ?_
          exact kt
        refine own_arm hgo126 ?_
        exact own_armEnd X124 N124 e124 (by rw [hv15.trans (if_neg hc33_14)]))
    obtain ⟨cq128, kq128, q128a, q128b, q128c⟩ := isOf hZ e127 E_u_BuiltInCall_BuiltIn_LANG
    obtain ⟨_, _, ⟨T128, L128, k128, n128⟩, -, X128, ⟨Lc128, hQ128, l128, y128, z128⟩, st128⟩ := X127.virtualBack hx (y := (⟨"com/example/muset/muset/sparql/BuiltInCall$BuiltIn", "takes", "(I)Z"⟩ : MethodName)) (z := (⟨"com/example/muset/muset/sparql/BuiltInCall$BuiltIn", "takes", "(I)Z"⟩ : MethodName)) hown (mvT hZ (hw _ (List.mem_of_getElem? (i := 8) rfl))) (mvT hZ (hw _ (List.mem_of_getElem? (i := 9) rfl))) (notFace_of_selects (args := #[]) (mvT hZ (hw _ (List.mem_of_getElem? (i := 11) rfl)))) (mvT hZ (hw _ (List.mem_of_getElem? (i := 11) rfl))) (mvT hZ (hw _ (List.mem_of_getElem? (i := 10) rfl))) (by decide) (backOf (W := 0) (rm2 l Z a0 hw [] u_BuiltInCall_BuiltIn_LANG v13 (1 : Int32) (1 : Int32) h0 n0 Z0 F_minArguments_u_BuiltInCall_BuiltIn_LANG F_maxArguments_u_BuiltInCall_BuiltIn_LANG) hZ (hw _ (List.mem_of_getElem? (i := 12) rfl)) (hw _ (List.mem_of_getElem? (i := 6) rfl)) (by decide) (by decide)) q128a q128c (g := (mkF m 47 #[.val (.int p0), .val (.int p1), .val (.int p2), .val (.int v1), .val (.ref u_BuiltInCall_BuiltIn_LANG), .val (.int v13), .val (.int v15), .unset] [(.int v13), (.ref u_BuiltInCall_BuiltIn_LANG)])) rfl (by rw [hml]; rfl) (Steps.refl _) (argsL := [(.int v13)]) (rest := []) (lenOf pd3 rfl) rfl (by show 2 * 0 + _ ≤ _; exact Nat.le_of_eq rfl) (hb hby at_47) (fun _ _ => ⟨rfl, e127, (by decide : 0 + 0 ≤ _), (by decide : 0 + 0 ≤ _)⟩)
    dsimp only [Pt.U, Pt.locs, Pt.cells, Pt.slots] at X128 l128 y128 z128 st128 hQ128
    subst l128 y128 z128
    obtain ⟨rfl, N128q, e128⟩ := hQ128
    have N128 := Fr.app N127 N128q
    obtain ⟨_, _, ⟨T129, L129, k129, n129⟩, -, X129, ⟨Lc129, hQ129, l129, y129, z129⟩, st129⟩ := Jvm.LawKit.callS X128 hx (y := (⟨"com/example/muset/muset/sparql/BuiltInTakesPinLaw", "expected", "(II)Z"⟩ : MethodName)) hown (mvT hZ (hw _ (List.mem_of_getElem? (i := 17) rfl))) (mvT hZ (hw _ (List.mem_of_getElem? (i := 18) rfl))) (mvT hZ (hw _ (List.mem_of_getElem? (i := 3) rfl))) (mvT hZ (hw _ (List.mem_of_getElem? (i := 19) rfl))) (by decide) (backOf (W := 1) (rm3 l Z a0 hw [] v1 v13 h0 n0 Z0 ) hZ (hw _ (List.mem_of_getElem? (i := 19) rfl)) (hw _ (List.mem_of_getElem? (i := 3) rfl)) (by decide) (by decide)) (g := (mkF m 53 #[.val (.int p0), .val (.int p1), .val (.int p2), .val (.int v1), .val (.ref u_BuiltInCall_BuiltIn_LANG), .val (.int v13), .val (.int v15), .unset] [(.int v13), (.int v1), (.int (own_r2 v13 (1 : Int32) (1 : Int32)))])) rfl (by rw [hml]; rfl) (argsL := [(.int v1), (.int v13)]) (rest := [(.int (own_r2 v13 (1 : Int32) (1 : Int32)))]) (lenOf pd4 rfl) rfl (by show 2 * 0 + _ ≤ _; exact Nat.le_of_eq rfl) (hb hby at_53) (fun _ _ => ⟨rfl, e128, (by decide : 0 + 0 ≤ _), (by decide : 0 + 0 ≤ _)⟩)
    dsimp only [Pt.U, Pt.locs, Pt.cells, Pt.slots] at X129 l129 y129 z129 st129 hQ129
    subst l129 y129 z129
    obtain ⟨rfl, N129q, e129⟩ := hQ129
    have N129 := Fr.app N128 N129q
    obtain ⟨v17, hv17⟩ : ∃ z : Int32, z = (if (own_r2 v13 (1 : Int32) (1 : Int32)) = (own_r3 v1 v13) then (1 : Int32) else (0 : Int32)) := ⟨_, rfl⟩
    obtain ⟨T132, lc132, X132, N132, e132, st132⟩ := own_mrg (n0 := n0) (h := h0) (g := (mkF m 56 #[.val (.int p0), .val (.int p1), .val (.int p2), .val (.int v1), .val (.ref u_BuiltInCall_BuiltIn_LANG), .val (.int v13), .val (.int v15), .unset] [(.int (own_r3 v1 v13)), (.int (own_r2 v13 (1 : Int32) (1 : Int32)))])) (g' := (mkF m 64 #[.val (.int p0), .val (.int p1), .val (.int p2), .val (.int v1), .val (.ref u_BuiltInCall_BuiltIn_LANG), .val (.int v13), .val (.int v15), .unset] [(.int v17)])) X129 (by
      by_cases hc56_16 : (own_r2 v13 (1 : Int32) (1 : Int32)) = (own_r3 v1 v13)
      · have hgo130 : ∀ t, Steps p.tables e below (T129.setTop (mkF m 64 #[.val (.int p0), .val (.int p1), .val (.int p2), .val (.int v1), .val (.ref u_BuiltInCall_BuiltIn_LANG), .val (.int v13), .val (.int v15), .unset] [(.int (1 : Int32))])) t → Steps p.tables e below (T129.setTop (mkF m 56 #[.val (.int p0), .val (.int p1), .val (.int p2), .val (.int v1), .val (.ref u_BuiltInCall_BuiltIn_LANG), .val (.int v13), .val (.int v15), .unset] [(.int (own_r3 v1 v13)), (.int (own_r2 v13 (1 : Int32) (1 : Int32)))])) t := by
          intro t kt
          show Steps p.tables e below (T129.setTop (mkF m 56 #[.val (.int p0), .val (.int p1), .val (.int p2), .val (.int v1), .val (.ref u_BuiltInCall_BuiltIn_LANG), .val (.int v13), .val (.int v15), .unset] [(.int (own_r3 v1 v13)), (.int (own_r2 v13 (1 : Int32) (1 : Int32)))])) _
          refine XS.icmpNo X129.here hx rfl (hb hby at_56) rfl (teq hc56_16).2 ?_
          show Steps p.tables e below (T129.setTop (mkF m 59 #[.val (.int p0), .val (.int p1), .val (.int p2), .val (.int v1), .val (.ref u_BuiltInCall_BuiltIn_LANG), .val (.int v13), .val (.int v15), .unset] [])) _
          refine XS.iconst X129.here hx rfl (hb hby at_59) ?_
          show Steps p.tables e below (T129.setTop (mkF m 60 #[.val (.int p0), .val (.int p1), .val (.int p2), .val (.int v1), .val (.ref u_BuiltInCall_BuiltIn_LANG), .val (.int v13), .val (.int v15), .unset] [(.int (1 : Int32))])) _
          refine XS.goto X129.here hx rfl (pc0 := 60) (pc' := 64) rfl (hb hby at_60) (by decide) (by decide) ?_
          exact kt
        refine own_arm hgo130 ?_
        exact own_armEnd X129 N129 e129 (by rw [hv17.trans (if_pos hc56_16)])
      · have hgo131 : ∀ t, Steps p.tables e below (T129.setTop (mkF m 64 #[.val (.int p0), .val (.int p1), .val (.int p2), .val (.int v1), .val (.ref u_BuiltInCall_BuiltIn_LANG), .val (.int v13), .val (.int v15), .unset] [(.int (0 : Int32))])) t → Steps p.tables e below (T129.setTop (mkF m 56 #[.val (.int p0), .val (.int p1), .val (.int p2), .val (.int v1), .val (.ref u_BuiltInCall_BuiltIn_LANG), .val (.int v13), .val (.int v15), .unset] [(.int (own_r3 v1 v13)), (.int (own_r2 v13 (1 : Int32) (1 : Int32)))])) t := by
          intro t kt
          show Steps p.tables e below (T129.setTop (mkF m 56 #[.val (.int p0), .val (.int p1), .val (.int p2), .val (.int v1), .val (.ref u_BuiltInCall_BuiltIn_LANG), .val (.int v13), .val (.int v15), .unset] [(.int (own_r3 v1 v13)), (.int (own_r2 v13 (1 : Int32) (1 : Int32)))])) _
          refine XS.icmpYes X129.here hx rfl (pc0 := 56) (pc' := 63) rfl (hb hby at_56) rfl (feq hc56_16).2 (by decide) (by decide) ?_
          show Steps p.tables e below (T129.setTop (mkF m 63 #[.val (.int p0), .val (.int p1), .val (.int p2), .val (.int v1), .val (.ref u_BuiltInCall_BuiltIn_LANG), .val (.int v13), .val (.int v15), .unset] [])) _
          refine XS.iconst X129.here hx rfl (hb hby at_63) ?_
          exact kt
        refine own_arm hgo131 ?_
        exact own_armEnd X129 N129 e129 (by rw [hv17.trans (if_neg hc56_16)]))
    obtain ⟨v20, hv20⟩ : ∃ z : Int32, z = (if v17 = (0 : Int32) then (0 : Int32) else (1 : Int32)) := ⟨_, rfl⟩
    obtain ⟨v21, hv21⟩ : ∃ z : Int32, z = (if v15 = (0 : Int32) then (0 : Int32) else v20) := ⟨_, rfl⟩
    obtain ⟨T138, lc138, X138, N138, e138, st138⟩ := own_mrg (n0 := n0) (h := h0) (g := (mkF m 68 #[.val (.int p0), .val (.int p1), .val (.int p2), .val (.int v1), .val (.ref u_BuiltInCall_BuiltIn_LANG), .val (.int v13), .val (.int v15), .val (.int v17)] [(.int v15)])) (g' := (mkF m 81 #[.val (.int p0), .val (.int p1), .val (.int p2), .val (.int v1), .val (.ref u_BuiltInCall_BuiltIn_LANG), .val (.int v13), .val (.int v15), .val (.int v17)] [(.int v21)])) X132 (by
      by_cases hc68_18 : v15 = (0 : Int32)
      · have hgo133 : ∀ t, Steps p.tables e below (T132.setTop (mkF m 81 #[.val (.int p0), .val (.int p1), .val (.int p2), .val (.int v1), .val (.ref u_BuiltInCall_BuiltIn_LANG), .val (.int v13), .val (.int v15), .val (.int v17)] [(.int (0 : Int32))])) t → Steps p.tables e below (T132.setTop (mkF m 68 #[.val (.int p0), .val (.int p1), .val (.int p2), .val (.int v1), .val (.ref u_BuiltInCall_BuiltIn_LANG), .val (.int v13), .val (.int v15), .val (.int v17)] [(.int v15)])) t := by
          intro t kt
          show Steps p.tables e below (T132.setTop (mkF m 68 #[.val (.int p0), .val (.int p1), .val (.int p2), .val (.int v1), .val (.ref u_BuiltInCall_BuiltIn_LANG), .val (.int v13), .val (.int v15), .val (.int v17)] [(.int v15)])) _
          refine XS.ifYes X132.here hx rfl (pc0 := 68) (pc' := 80) rfl (hb hby at_68) rfl ((if0 _ _).trans (teq hc68_18).1) (by decide) (by decide) ?_
          show Steps p.tables e below (T132.setTop (mkF m 80 #[.val (.int p0), .val (.int p1), .val (.int p2), .val (.int v1), .val (.ref u_BuiltInCall_BuiltIn_LANG), .val (.int v13), .val (.int v15), .val (.int v17)] [])) _
          refine XS.iconst X132.here hx rfl (hb hby at_80) ?_
          exact kt
        refine own_arm hgo133 ?_
        exact own_armEnd X132 N132 e132 (by rw [hv21.trans (if_pos hc68_18)])
      · obtain ⟨T136, lc136, X136, N136, e136, st136⟩ := own_mrg (n0 := n0) (h := h0) (g := (mkF m 73 #[.val (.int p0), .val (.int p1), .val (.int p2), .val (.int v1), .val (.ref u_BuiltInCall_BuiltIn_LANG), .val (.int v13), .val (.int v15), .val (.int v17)] [(.int v17)])) (g' := (mkF m 81 #[.val (.int p0), .val (.int p1), .val (.int p2), .val (.int v1), .val (.ref u_BuiltInCall_BuiltIn_LANG), .val (.int v13), .val (.int v15), .val (.int v17)] [(.int v20)])) X132 (by
          by_cases hc73_19 : v17 = (0 : Int32)
          · have hgo134 : ∀ t, Steps p.tables e below (T132.setTop (mkF m 81 #[.val (.int p0), .val (.int p1), .val (.int p2), .val (.int v1), .val (.ref u_BuiltInCall_BuiltIn_LANG), .val (.int v13), .val (.int v15), .val (.int v17)] [(.int (0 : Int32))])) t → Steps p.tables e below (T132.setTop (mkF m 73 #[.val (.int p0), .val (.int p1), .val (.int p2), .val (.int v1), .val (.ref u_BuiltInCall_BuiltIn_LANG), .val (.int v13), .val (.int v15), .val (.int v17)] [(.int v17)])) t := by
              intro t kt
              show Steps p.tables e below (T132.setTop (mkF m 73 #[.val (.int p0), .val (.int p1), .val (.int p2), .val (.int v1), .val (.ref u_BuiltInCall_BuiltIn_LANG), .val (.int v13), .val (.int v15), .val (.int v17)] [(.int v17)])) _
              refine XS.ifYes X132.here hx rfl (pc0 := 73) (pc' := 80) rfl (hb hby at_73) rfl ((if0 _ _).trans (teq hc73_19).1) (by decide) (by decide) ?_
              show Steps p.tables e below (T132.setTop (mkF m 80 #[.val (.int p0), .val (.int p1), .val (.int p2), .val (.int v1), .val (.ref u_BuiltInCall_BuiltIn_LANG), .val (.int v13), .val (.int v15), .val (.int v17)] [])) _
              refine XS.iconst X132.here hx rfl (hb hby at_80) ?_
              exact kt
            refine own_arm hgo134 ?_
            exact own_armEnd X132 N132 e132 (by rw [hv20.trans (if_pos hc73_19)])
          · have hgo135 : ∀ t, Steps p.tables e below (T132.setTop (mkF m 81 #[.val (.int p0), .val (.int p1), .val (.int p2), .val (.int v1), .val (.ref u_BuiltInCall_BuiltIn_LANG), .val (.int v13), .val (.int v15), .val (.int v17)] [(.int (1 : Int32))])) t → Steps p.tables e below (T132.setTop (mkF m 73 #[.val (.int p0), .val (.int p1), .val (.int p2), .val (.int v1), .val (.ref u_BuiltInCall_BuiltIn_LANG), .val (.int v13), .val (.int v15), .val (.int v17)] [(.int v17)])) t := by
              intro t kt
              show Steps p.tables e below (T132.setTop (mkF m 73 #[.val (.int p0), .val (.int p1), .val (.int p2), .val (.int v1), .val (.ref u_BuiltInCall_BuiltIn_LANG), .val (.int v13), .val (.int v15), .val (.int v17)] [(.int v17)])) _
              refine XS.ifNo X132.here hx rfl (hb hby at_73) rfl ((if0 _ _).trans (feq hc73_19).1) ?_
              show Steps p.tables e below (T132.setTop (mkF m 76 #[.val (.int p0), .val (.int p1), .val (.int p2), .val (.int v1), .val (.ref u_BuiltInCall_BuiltIn_LANG), .val (.int v13), .val (.int v15), .val (.int v17)] [])) _
              refine XS.iconst X132.here hx rfl (hb hby at_76) ?_
              show Steps p.tables e below (T132.setTop (mkF m 77 #[.val (.int p0), .val (.int p1), .val (.int p2), .val (.int v1), .val (.ref u_BuiltInCall_BuiltIn_LANG), .val (.int v13), .val (.int v15), .val (.int v17)] [(.int (1 : Int32))])) _
              refine XS.goto X132.here hx rfl (pc0 := 77) (pc' := 81) rfl (hb hby at_77) (by decide) (by decide) ?_
              exact kt
            refine own_arm hgo135 ?_
            exact own_armEnd X132 N132 e132 (by rw [hv20.trans (if_neg hc73_19)]))
        have hgo137 : ∀ t, Steps p.tables e below (T136.setTop (mkF m 81 #[.val (.int p0), .val (.int p1), .val (.int p2), .val (.int v1), .val (.ref u_BuiltInCall_BuiltIn_LANG), .val (.int v13), .val (.int v15), .val (.int v17)] [(.int v20)])) t → Steps p.tables e below (T132.setTop (mkF m 68 #[.val (.int p0), .val (.int p1), .val (.int p2), .val (.int v1), .val (.ref u_BuiltInCall_BuiltIn_LANG), .val (.int v13), .val (.int v15), .val (.int v17)] [(.int v15)])) t := by
          intro t kt
          show Steps p.tables e below (T132.setTop (mkF m 68 #[.val (.int p0), .val (.int p1), .val (.int p2), .val (.int v1), .val (.ref u_BuiltInCall_BuiltIn_LANG), .val (.int v13), .val (.int v15), .val (.int v17)] [(.int v15)])) _
          refine XS.ifNo X132.here hx rfl (hb hby at_68) rfl ((if0 _ _).trans (feq hc68_18).1) ?_
          show Steps p.tables e below (T132.setTop (mkF m 71 #[.val (.int p0), .val (.int p1), .val (.int p2), .val (.int v1), .val (.ref u_BuiltInCall_BuiltIn_LANG), .val (.int v13), .val (.int v15), .val (.int v17)] [])) _
          refine XS.iload X132.here hx rfl (hb hby at_71) rfl ?_
          show Steps p.tables e below (T132.setTop (mkF m 73 #[.val (.int p0), .val (.int p1), .val (.int p2), .val (.int v1), .val (.ref u_BuiltInCall_BuiltIn_LANG), .val (.int v13), .val (.int v15), .val (.int v17)] [(.int v17)])) _
          refine st136 _ ?_
          exact kt
        refine own_arm hgo137 ?_
        exact own_armEnd X136 N136 e136 (by rw [hv21.trans (if_neg hc68_18)]))
    have hgo139 : ∀ t, Steps p.tables e below (T138.setTop (mkF m 81 #[.val (.int p0), .val (.int p1), .val (.int p2), .val (.int v1), .val (.ref u_BuiltInCall_BuiltIn_LANG), .val (.int v13), .val (.int v15), .val (.int v17)] [(.int v21)])) t → Steps p.tables e below (s₁.setTop (mkF m 9 #[.val (.int p0), .val (.int p1), .val (.int p2), .val (.int v1), .unset, .unset, .unset, .unset] [(.int v1)])) t := by
      intro t kt
      show Steps p.tables e below (s₁.setTop (mkF m 9 #[.val (.int p0), .val (.int p1), .val (.int p2), .val (.int v1), .unset, .unset, .unset, .unset] [(.int v1)])) _
      refine st122 _ ?_
      show Steps p.tables e below (T122.setTop (mkF m 12 #[.val (.int p0), .val (.int p1), .val (.int p2), .val (.int v1), .unset, .unset, .unset, .unset] [(.ref u_BuiltInCall_BuiltIn_LANG)])) _
      refine XS.astore X122.here hx rfl (hb hby at_12) rfl rfl (l' := #[.val (.int p0), .val (.int p1), .val (.int p2), .val (.int v1), .val (.ref u_BuiltInCall_BuiltIn_LANG), .unset, .unset, .unset]) rfl ?_
      show Steps p.tables e below (T122.setTop (mkF m 14 #[.val (.int p0), .val (.int p1), .val (.int p2), .val (.int v1), .val (.ref u_BuiltInCall_BuiltIn_LANG), .unset, .unset, .unset] [])) _
      refine XS.iloadN X122.here hx rfl (hb hby at_14) rfl ?_
      show Steps p.tables e below (T122.setTop (mkF m 15 #[.val (.int p0), .val (.int p1), .val (.int p2), .val (.int v1), .val (.ref u_BuiltInCall_BuiltIn_LANG), .unset, .unset, .unset] [(.int p2)])) _
      refine XS.bipush X122.here hx rfl (hb hby at_15) ?_
      show Steps p.tables e below (T122.setTop (mkF m 17 #[.val (.int p0), .val (.int p1), .val (.int p2), .val (.int v1), .val (.ref u_BuiltInCall_BuiltIn_LANG), .unset, .unset, .unset] [(.int (7 : Int32)), (.int p2)])) _
      refine XS.iand X122.here hx rfl (hb hby at_17) rfl ?_
      show Steps p.tables e below (T122.setTop (mkF m 18 #[.val (.int p0), .val (.int p1), .val (.int p2), .val (.int v1), .val (.ref u_BuiltInCall_BuiltIn_LANG), .unset, .unset, .unset] [(.int (p2 &&& (7 : Int32)))])) _
      refine XS.iconst X122.here hx rfl (hb hby at_18) ?_
      show Steps p.tables e below (T122.setTop (mkF m 19 #[.val (.int p0), .val (.int p1), .val (.int p2), .val (.int v1), .val (.ref u_BuiltInCall_BuiltIn_LANG), .unset, .unset, .unset] [(.int (2 : Int32)), (.int (p2 &&& (7 : Int32)))])) _
      refine XS.isub X122.here hx rfl (hb hby at_19) rfl ?_
      show Steps p.tables e below (T122.setTop (mkF m 20 #[.val (.int p0), .val (.int p1), .val (.int p2), .val (.int v1), .val (.ref u_BuiltInCall_BuiltIn_LANG), .unset, .unset, .unset] [(.int ((p2 &&& (7 : Int32)) - (2 : Int32)))])) _
      rw [← hv13]
      show Steps p.tables e below (T122.setTop (mkF m 20 #[.val (.int p0), .val (.int p1), .val (.int p2), .val (.int v1), .val (.ref u_BuiltInCall_BuiltIn_LANG), .unset, .unset, .unset] [(.int v13)])) _
      refine XS.istore X122.here hx rfl (hb hby at_20) rfl (l' := #[.val (.int p0), .val (.int p1), .val (.int p2), .val (.int v1), .val (.ref u_BuiltInCall_BuiltIn_LANG), .val (.int v13), .unset, .unset]) rfl ?_
      show Steps p.tables e below (T122.setTop (mkF m 22 #[.val (.int p0), .val (.int p1), .val (.int p2), .val (.int v1), .val (.ref u_BuiltInCall_BuiltIn_LANG), .val (.int v13), .unset, .unset] [])) _
      refine XS.aload X122.here hx rfl (hb hby at_22) rfl rfl ?_
      show Steps p.tables e below (T122.setTop (mkF m 24 #[.val (.int p0), .val (.int p1), .val (.int p2), .val (.int v1), .val (.ref u_BuiltInCall_BuiltIn_LANG), .val (.int v13), .unset, .unset] [(.ref u_BuiltInCall_BuiltIn_LANG)])) _
      refine XS.iloadN X122.here hx rfl (hb hby at_24) rfl ?_
      show Steps p.tables e below (T122.setTop (mkF m 25 #[.val (.int p0), .val (.int p1), .val (.int p2), .val (.int v1), .val (.ref u_BuiltInCall_BuiltIn_LANG), .val (.int v13), .unset, .unset] [(.int p1), (.ref u_BuiltInCall_BuiltIn_LANG)])) _
      refine st123.trans ?_
      show Steps p.tables e below (T123.setTop (mkF m 28 #[.val (.int p0), .val (.int p1), .val (.int p2), .val (.int v1), .val (.ref u_BuiltInCall_BuiltIn_LANG), .val (.int v13), .unset, .unset] [(.int (own_r2 p1 (1 : Int32) (1 : Int32)))])) _
      refine XS.iloadN X123.here hx rfl (hb hby at_28) rfl ?_
      show Steps p.tables e below (T123.setTop (mkF m 29 #[.val (.int p0), .val (.int p1), .val (.int p2), .val (.int v1), .val (.ref u_BuiltInCall_BuiltIn_LANG), .val (.int v13), .unset, .unset] [(.int v1), (.int (own_r2 p1 (1 : Int32) (1 : Int32)))])) _
      refine XS.iloadN X123.here hx rfl (hb hby at_29) rfl ?_
      show Steps p.tables e below (T123.setTop (mkF m 30 #[.val (.int p0), .val (.int p1), .val (.int p2), .val (.int v1), .val (.ref u_BuiltInCall_BuiltIn_LANG), .val (.int v13), .unset, .unset] [(.int p1), (.int v1), (.int (own_r2 p1 (1 : Int32) (1 : Int32)))])) _
      refine st124 _ ?_
      show Steps p.tables e below (T124.setTop (mkF m 33 #[.val (.int p0), .val (.int p1), .val (.int p2), .val (.int v1), .val (.ref u_BuiltInCall_BuiltIn_LANG), .val (.int v13), .unset, .unset] [(.int (own_r3 v1 p1)), (.int (own_r2 p1 (1 : Int32) (1 : Int32)))])) _
      refine st127 _ ?_
      show Steps p.tables e below (T127.setTop (mkF m 41 #[.val (.int p0), .val (.int p1), .val (.int p2), .val (.int v1), .val (.ref u_BuiltInCall_BuiltIn_LANG), .val (.int v13), .unset, .unset] [(.int v15)])) _
      refine XS.istore X127.here hx rfl (hb hby at_41) rfl (l' := #[.val (.int p0), .val (.int p1), .val (.int p2), .val (.int v1), .val (.ref u_BuiltInCall_BuiltIn_LANG), .val (.int v13), .val (.int v15), .unset]) rfl ?_
      show Steps p.tables e below (T127.setTop (mkF m 43 #[.val (.int p0), .val (.int p1), .val (.int p2), .val (.int v1), .val (.ref u_BuiltInCall_BuiltIn_LANG), .val (.int v13), .val (.int v15), .unset] [])) _
      refine XS.aload X127.here hx rfl (hb hby at_43) rfl rfl ?_
      show Steps p.tables e below (T127.setTop (mkF m 45 #[.val (.int p0), .val (.int p1), .val (.int p2), .val (.int v1), .val (.ref u_BuiltInCall_BuiltIn_LANG), .val (.int v13), .val (.int v15), .unset] [(.ref u_BuiltInCall_BuiltIn_LANG)])) _
      refine XS.iload X127.here hx rfl (hb hby at_45) rfl ?_
      show Steps p.tables e below (T127.setTop (mkF m 47 #[.val (.int p0), .val (.int p1), .val (.int p2), .val (.int v1), .val (.ref u_BuiltInCall_BuiltIn_LANG), .val (.int v13), .val (.int v15), .unset] [(.int v13), (.ref u_BuiltInCall_BuiltIn_LANG)])) _
      refine st128.trans ?_
      show Steps p.tables e below (T128.setTop (mkF m 50 #[.val (.int p0), .val (.int p1), .val (.int p2), .val (.int v1), .val (.ref u_BuiltInCall_BuiltIn_LANG), .val (.int v13), .val (.int v15), .unset] [(.int (own_r2 v13 (1 : Int32) (1 : Int32)))])) _
      refine XS.iloadN X128.here hx rfl (hb hby at_50) rfl ?_
      show Steps p.tables e below (T128.setTop (mkF m 51 #[.val (.int p0), .val (.int p1), .val (.int p2), .val (.int v1), .val (.ref u_BuiltInCall_BuiltIn_LANG), .val (.int v13), .val (.int v15), .unset] [(.int v1), (.int (own_r2 v13 (1 : Int32) (1 : Int32)))])) _
      refine XS.iload X128.here hx rfl (hb hby at_51) rfl ?_
      show Steps p.tables e below (T128.setTop (mkF m 53 #[.val (.int p0), .val (.int p1), .val (.int p2), .val (.int v1), .val (.ref u_BuiltInCall_BuiltIn_LANG), .val (.int v13), .val (.int v15), .unset] [(.int v13), (.int v1), (.int (own_r2 v13 (1 : Int32) (1 : Int32)))])) _
      refine st129 _ ?_
      show Steps p.tables e below (T129.setTop (mkF m 56 #[.val (.int p0), .val (.int p1), .val (.int p2), .val (.int v1), .val (.ref u_BuiltInCall_BuiltIn_LANG), .val (.int v13), .val (.int v15), .unset] [(.int (own_r3 v1 v13)), (.int (own_r2 v13 (1 : Int32) (1 : Int32)))])) _
      refine st132 _ ?_
      show Steps p.tables e below (T132.setTop (mkF m 64 #[.val (.int p0), .val (.int p1), .val (.int p2), .val (.int v1), .val (.ref u_BuiltInCall_BuiltIn_LANG), .val (.int v13), .val (.int v15), .unset] [(.int v17)])) _
      refine XS.istore X132.here hx rfl (hb hby at_64) rfl (l' := #[.val (.int p0), .val (.int p1), .val (.int p2), .val (.int v1), .val (.ref u_BuiltInCall_BuiltIn_LANG), .val (.int v13), .val (.int v15), .val (.int v17)]) rfl ?_
      show Steps p.tables e below (T132.setTop (mkF m 66 #[.val (.int p0), .val (.int p1), .val (.int p2), .val (.int v1), .val (.ref u_BuiltInCall_BuiltIn_LANG), .val (.int v13), .val (.int v15), .val (.int v17)] [])) _
      refine XS.iload X132.here hx rfl (hb hby at_66) rfl ?_
      show Steps p.tables e below (T132.setTop (mkF m 68 #[.val (.int p0), .val (.int p1), .val (.int p2), .val (.int v1), .val (.ref u_BuiltInCall_BuiltIn_LANG), .val (.int v13), .val (.int v15), .val (.int v17)] [(.int v15)])) _
      refine st138 _ ?_
      exact kt
    refine own_go hgo139 ?_
    have hz140 : v21 = 1 := own_leaf1 (p0 := p0) (p1 := p1) (p2 := p2) (u_BuiltInCall_BuiltIn_STR := u_BuiltInCall_BuiltIn_STR) (u_BuiltInCall_BuiltIn_LANG := u_BuiltInCall_BuiltIn_LANG) (u_BuiltInCall_BuiltIn_SAME_TERM := u_BuiltInCall_BuiltIn_SAME_TERM) (u_BuiltInCall_BuiltIn_IS_IRI := u_BuiltInCall_BuiltIn_IS_IRI) (u_BuiltInCall_BuiltIn_IS_LITERAL := u_BuiltInCall_BuiltIn_IS_LITERAL) (u_BuiltInCall_BuiltIn_DATATYPE := u_BuiltInCall_BuiltIn_DATATYPE) (u_BuiltInCall_BuiltIn_IS_URI := u_BuiltInCall_BuiltIn_IS_URI) (u_BuiltInCall_BuiltIn_IS_BLANK := u_BuiltInCall_BuiltIn_IS_BLANK) (u_BuiltInCall_BuiltIn_REGEX := u_BuiltInCall_BuiltIn_REGEX) (u_BuiltInCall_BuiltIn_LANG_MATCHES := u_BuiltInCall_BuiltIn_LANG_MATCHES) hv1 hv13 hv15 hv17 hv20 hv21 hs9_2 hs9_12
    exact own_retZ X138 hx Bd.returns Bd.notSynchronized (hb hby at_81) (by decide) (by decide) (Or.inr hz140) ⟨by rw [hz140], N138⟩
  by_cases hs9_22 : v1 = (2 : Int32)
  · obtain ⟨_, _, ⟨T141, L141, k141, n141⟩, -, X141, ⟨Lc141, hQ141, l141, y141, z141⟩, st141⟩ := Jvm.LawKit.callS X0 hx (y := (⟨"com/example/muset/muset/sparql/BuiltInTakesPinLaw", "pick", "(I)Lcom/example/muset/muset/sparql/BuiltInCall$BuiltIn;"⟩ : MethodName)) hown (mvT hZ (hw _ (List.mem_of_getElem? (i := 1) rfl))) (mvT hZ (hw _ (List.mem_of_getElem? (i := 2) rfl))) (mvT hZ (hw _ (List.mem_of_getElem? (i := 3) rfl))) (mvT hZ (hw _ (List.mem_of_getElem? (i := 4) rfl))) (by decide) (backOf (W := 0) (rm1_2 l Z a0 hw [] v1 u_BuiltInCall_BuiltIn_LANG_MATCHES h0 n0 Z0 (by first | assumption | decide : ¬ (v1 = (0 : Int32))) (by first | assumption | decide : ¬ (v1 = (1 : Int32))) (by first | assumption | decide : v1 = (2 : Int32)) S_u_BuiltInCall_BuiltIn_LANG_MATCHES) hZ (hw _ (List.mem_of_getElem? (i := 4) rfl)) (hw _ (List.mem_of_getElem? (i := 3) rfl)) (by decide) (by decide)) (g := (mkF m 9 #[.val (.int p0), .val (.int p1), .val (.int p2), .val (.int v1), .unset, .unset, .unset, .unset] [(.int v1)])) rfl (by rw [hml]; rfl) (argsL := [(.int v1)]) (rest := []) (lenOf pd2 rfl) rfl (by show 2 * 0 + _ ≤ _; exact Nat.le_of_eq rfl) (hb hby at_9) (fun _ _ => ⟨rfl, e0, (by decide : 0 + 0 ≤ _), (by decide : 0 + 0 ≤ _)⟩)
    dsimp only [Pt.U, Pt.locs, Pt.cells, Pt.slots] at X141 l141 y141 z141 st141 hQ141
    subst l141 y141 z141
    obtain ⟨rfl, N141q, e141⟩ := hQ141
    have N141 := Fr.app N0 N141q
    obtain ⟨v23, hv23⟩ : ∃ z : Int32, z = ((p2 &&& (7 : Int32)) - (2 : Int32)) := ⟨_, rfl⟩
    obtain ⟨cq142, kq142, q142a, q142b, q142c⟩ := isOf hZ e141 E_u_BuiltInCall_BuiltIn_LANG_MATCHES
    obtain ⟨_, _, ⟨T142, L142, k142, n142⟩, -, X142, ⟨Lc142, hQ142, l142, y142, z142⟩, st142⟩ := X141.virtualBack hx (y := (⟨"com/example/muset/muset/sparql/BuiltInCall$BuiltIn", "takes", "(I)Z"⟩ : MethodName)) (z := (⟨"com/example/muset/muset/sparql/BuiltInCall$BuiltIn", "takes", "(I)Z"⟩ : MethodName)) hown (mvT hZ (hw _ (List.mem_of_getElem? (i := 8) rfl))) (mvT hZ (hw _ (List.mem_of_getElem? (i := 9) rfl))) (notFace_of_selects (args := #[]) (mvT hZ (hw _ (List.mem_of_getElem? (i := 11) rfl)))) (mvT hZ (hw _ (List.mem_of_getElem? (i := 11) rfl))) (mvT hZ (hw _ (List.mem_of_getElem? (i := 10) rfl))) (by decide) (backOf (W := 0) (rm2 l Z a0 hw [] u_BuiltInCall_BuiltIn_LANG_MATCHES p1 (2 : Int32) (2 : Int32) h0 n0 Z0 F_minArguments_u_BuiltInCall_BuiltIn_LANG_MATCHES F_maxArguments_u_BuiltInCall_BuiltIn_LANG_MATCHES) hZ (hw _ (List.mem_of_getElem? (i := 12) rfl)) (hw _ (List.mem_of_getElem? (i := 6) rfl)) (by decide) (by decide)) q142a q142c (g := (mkF m 25 #[.val (.int p0), .val (.int p1), .val (.int p2), .val (.int v1), .val (.ref u_BuiltInCall_BuiltIn_LANG_MATCHES), .val (.int v23), .unset, .unset] [(.int p1), (.ref u_BuiltInCall_BuiltIn_LANG_MATCHES)])) rfl (by rw [hml]; rfl) (Steps.refl _) (argsL := [(.int p1)]) (rest := []) (lenOf pd3 rfl) rfl (by show 2 * 0 + _ ≤ _; exact Nat.le_of_eq rfl) (hb hby at_25) (fun _ _ => ⟨rfl, e141, (by decide : 0 + 0 ≤ _), (by decide : 0 + 0 ≤ _)⟩)
    dsimp only [Pt.U, Pt.locs, Pt.cells, Pt.slots] at X142 l142 y142 z142 st142 hQ142
    subst l142 y142 z142
    obtain ⟨rfl, N142q, e142⟩ := hQ142
    have N142 := Fr.app N141 N142q
    obtain ⟨_, _, ⟨T143, L143, k143, n143⟩, -, X143, ⟨Lc143, hQ143, l143, y143, z143⟩, st143⟩ := Jvm.LawKit.callS X142 hx (y := (⟨"com/example/muset/muset/sparql/BuiltInTakesPinLaw", "expected", "(II)Z"⟩ : MethodName)) hown (mvT hZ (hw _ (List.mem_of_getElem? (i := 17) rfl))) (mvT hZ (hw _ (List.mem_of_getElem? (i := 18) rfl))) (mvT hZ (hw _ (List.mem_of_getElem? (i := 3) rfl))) (mvT hZ (hw _ (List.mem_of_getElem? (i := 19) rfl))) (by decide) (backOf (W := 1) (rm3 l Z a0 hw [] v1 p1 h0 n0 Z0 ) hZ (hw _ (List.mem_of_getElem? (i := 19) rfl)) (hw _ (List.mem_of_getElem? (i := 3) rfl)) (by decide) (by decide)) (g := (mkF m 30 #[.val (.int p0), .val (.int p1), .val (.int p2), .val (.int v1), .val (.ref u_BuiltInCall_BuiltIn_LANG_MATCHES), .val (.int v23), .unset, .unset] [(.int p1), (.int v1), (.int (own_r2 p1 (2 : Int32) (2 : Int32)))])) rfl (by rw [hml]; rfl) (argsL := [(.int v1), (.int p1)]) (rest := [(.int (own_r2 p1 (2 : Int32) (2 : Int32)))]) (lenOf pd4 rfl) rfl (by show 2 * 0 + _ ≤ _; exact Nat.le_of_eq rfl) (hb hby at_30) (fun _ _ => ⟨rfl, e142, (by decide : 0 + 0 ≤ _), (by decide : 0 + 0 ≤ _)⟩)
    dsimp only [Pt.U, Pt.locs, Pt.cells, Pt.slots] at X143 l143 y143 z143 st143 hQ143
    subst l143 y143 z143
    obtain ⟨rfl, N143q, e143⟩ := hQ143
    have N143 := Fr.app N142 N143q
    obtain ⟨v25, hv25⟩ : ∃ z : Int32, z = (if (own_r2 p1 (2 : Int32) (2 : Int32)) = (own_r3 v1 p1) then (1 : Int32) else (0 : Int32)) := ⟨_, rfl⟩
    obtain ⟨T146, lc146, X146, N146, e146, st146⟩ := own_mrg (n0 := n0) (h := h0) (g := (mkF m 33 #[.val (.int p0), .val (.int p1), .val (.int p2), .val (.int v1), .val (.ref u_BuiltInCall_BuiltIn_LANG_MATCHES), .val (.int v23), .unset, .unset] [(.int (own_r3 v1 p1)), (.int (own_r2 p1 (2 : Int32) (2 : Int32)))])) (g' := (mkF m 41 #[.val (.int p0), .val (.int p1), .val (.int p2), .val (.int v1), .val (.ref u_BuiltInCall_BuiltIn_LANG_MATCHES), .val (.int v23), .unset, .unset] [(.int v25)])) X143 (by
      by_cases hc33_24 : (own_r2 p1 (2 : Int32) (2 : Int32)) = (own_r3 v1 p1)
      · have hgo144 : ∀ t, Steps p.tables e below (T143.setTop (mkF m 41 #[.val (.int p0), .val (.int p1), .val (.int p2), .val (.int v1), .val (.ref u_BuiltInCall_BuiltIn_LANG_MATCHES), .val (.int v23), .unset, .unset] [(.int (1 : Int32))])) t → Steps p.tables e below (T143.setTop (mkF m 33 #[.val (.int p0), .val (.int p1), .val (.int p2), .val (.int v1), .val (.ref u_BuiltInCall_BuiltIn_LANG_MATCHES), .val (.int v23), .unset, .unset] [(.int (own_r3 v1 p1)), (.int (own_r2 p1 (2 : Int32) (2 : Int32)))])) t := by
          intro t kt
          show Steps p.tables e below (T143.setTop (mkF m 33 #[.val (.int p0), .val (.int p1), .val (.int p2), .val (.int v1), .val (.ref u_BuiltInCall_BuiltIn_LANG_MATCHES), .val (.int v23), .unset, .unset] [(.int (own_r3 v1 p1)), (.int (own_r2 p1 (2 : Int32) (2 : Int32)))])) _
          refine XS.icmpNo X143.here hx rfl (hb hby at_33) rfl (teq hc33_24).2 ?_
          show Steps p.tables e below (T143.setTop (mkF m 36 #[.val (.int p0), .val (.int p1), .val (.int p2), .val (.int v1), .val (.ref u_BuiltInCall_BuiltIn_LANG_MATCHES), .val (.int v23), .unset, .unset] [])) _
          refine XS.iconst X143.here hx rfl (hb hby at_36) ?_
          show Steps p.tables e below (T143.setTop (mkF m 37 #[.val (.int p0), .val (.int p1), .val (.int p2), .val (.int v1), .val (.ref u_BuiltInCall_BuiltIn_LANG_MATCHES), .val (.int v23), .unset, .unset] [(.int (1 : Int32))])) _
          refine XS.goto X143.here hx rfl (pc0 := 37) (pc' := 41) rfl (hb hby at_37) (by decide) (by decide) ?_
          exact kt
        refine own_arm hgo144 ?_
        exact own_armEnd X143 N143 e143 (by rw [hv25.trans (if_pos hc33_24)])
      · have hgo145 : ∀ t, Steps p.tables e below (T143.setTop (mkF m 41 #[.val (.int p0), .val (.int p1), .val (.int p2), .val (.int v1), .val (.ref u_BuiltInCall_BuiltIn_LANG_MATCHES), .val (.int v23), .unset, .unset] [(.int (0 : Int32))])) t → Steps p.tables e below (T143.setTop (mkF m 33 #[.val (.int p0), .val (.int p1), .val (.int p2), .val (.int v1), .val (.ref u_BuiltInCall_BuiltIn_LANG_MATCHES), .val (.int v23), .unset, .unset] [(.int (own_r3 v1 p1)), (.int (own_r2 p1 (2 : Int32) (2 : Int32)))])) t := by
          intro t kt
          show Steps p.tables e below (T143.setTop (mkF m 33 #[.val (.int p0), .val (.int p1), .val (.int p2), .val (.int v1), .val (.ref u_BuiltInCall_BuiltIn_LANG_MATCHES), .val (.int v23), .unset, .unset] [(.int (own_r3 v1 p1)), (.int (own_r2 p1 (2 : Int32) (2 : Int32)))])) _
          refine XS.icmpYes X143.here hx rfl (pc0 := 33) (pc' := 40) rfl (hb hby at_33) rfl (feq hc33_24).2 (by decide) (by decide) ?_
          show Steps p.tables e below (T143.setTop (mkF m 40 #[.val (.int p0), .val (.int p1), .val (.int p2), .val (.int v1), .val (.ref u_BuiltInCall_BuiltIn_LANG_MATCHES), .val (.int v23), .unset, .unset] [])) _
          refine XS.iconst X143.here hx rfl (hb hby at_40) ?_
          exact kt
        refine own_arm hgo145 ?_
        exact own_armEnd X143 N143 e143 (by rw [hv25.trans (if_neg hc33_24)]))
    obtain ⟨cq147, kq147, q147a, q147b, q147c⟩ := isOf hZ e146 E_u_BuiltInCall_BuiltIn_LANG_MATCHES
    obtain ⟨_, _, ⟨T147, L147, k147, n147⟩, -, X147, ⟨Lc147, hQ147, l147, y147, z147⟩, st147⟩ := X146.virtualBack hx (y := (⟨"com/example/muset/muset/sparql/BuiltInCall$BuiltIn", "takes", "(I)Z"⟩ : MethodName)) (z := (⟨"com/example/muset/muset/sparql/BuiltInCall$BuiltIn", "takes", "(I)Z"⟩ : MethodName)) hown (mvT hZ (hw _ (List.mem_of_getElem? (i := 8) rfl))) (mvT hZ (hw _ (List.mem_of_getElem? (i := 9) rfl))) (notFace_of_selects (args := #[]) (mvT hZ (hw _ (List.mem_of_getElem? (i := 11) rfl)))) (mvT hZ (hw _ (List.mem_of_getElem? (i := 11) rfl))) (mvT hZ (hw _ (List.mem_of_getElem? (i := 10) rfl))) (by decide) (backOf (W := 0) (rm2 l Z a0 hw [] u_BuiltInCall_BuiltIn_LANG_MATCHES v23 (2 : Int32) (2 : Int32) h0 n0 Z0 F_minArguments_u_BuiltInCall_BuiltIn_LANG_MATCHES F_maxArguments_u_BuiltInCall_BuiltIn_LANG_MATCHES) hZ (hw _ (List.mem_of_getElem? (i := 12) rfl)) (hw _ (List.mem_of_getElem? (i := 6) rfl)) (by decide) (by decide)) q147a q147c (g := (mkF m 47 #[.val (.int p0), .val (.int p1), .val (.int p2), .val (.int v1), .val (.ref u_BuiltInCall_BuiltIn_LANG_MATCHES), .val (.int v23), .val (.int v25), .unset] [(.int v23), (.ref u_BuiltInCall_BuiltIn_LANG_MATCHES)])) rfl (by rw [hml]; rfl) (Steps.refl _) (argsL := [(.int v23)]) (rest := []) (lenOf pd3 rfl) rfl (by show 2 * 0 + _ ≤ _; exact Nat.le_of_eq rfl) (hb hby at_47) (fun _ _ => ⟨rfl, e146, (by decide : 0 + 0 ≤ _), (by decide : 0 + 0 ≤ _)⟩)
    dsimp only [Pt.U, Pt.locs, Pt.cells, Pt.slots] at X147 l147 y147 z147 st147 hQ147
    subst l147 y147 z147
    obtain ⟨rfl, N147q, e147⟩ := hQ147
    have N147 := Fr.app N146 N147q
    obtain ⟨_, _, ⟨T148, L148, k148, n148⟩, -, X148, ⟨Lc148, hQ148, l148, y148, z148⟩, st148⟩ := Jvm.LawKit.callS X147 hx (y := (⟨"com/example/muset/muset/sparql/BuiltInTakesPinLaw", "expected", "(II)Z"⟩ : MethodName)) hown (mvT hZ (hw _ (List.mem_of_getElem? (i := 17) rfl))) (mvT hZ (hw _ (List.mem_of_getElem? (i := 18) rfl))) (mvT hZ (hw _ (List.mem_of_getElem? (i := 3) rfl))) (mvT hZ (hw _ (List.mem_of_getElem? (i := 19) rfl))) (by decide) (backOf (W := 1) (rm3 l Z a0 hw [] v1 v23 h0 n0 Z0 ) hZ (hw _ (List.mem_of_getElem? (i := 19) rfl)) (hw _ (List.mem_of_getElem? (i := 3) rfl)) (by decide) (by decide)) (g := (mkF m 53 #[.val (.int p0), .val (.int p1), .val (.int p2), .val (.int v1), .val (.ref u_BuiltInCall_BuiltIn_LANG_MATCHES), .val (.int v23), .val (.int v25), .unset] [(.int v23), (.int v1), (.int (own_r2 v23 (2 : Int32) (2 : Int32)))])) rfl (by rw [hml]; rfl) (argsL := [(.int v1), (.int v23)]) (rest := [(.int (own_r2 v23 (2 : Int32) (2 : Int32)))]) (lenOf pd4 rfl) rfl (by show 2 * 0 + _ ≤ _; exact Nat.le_of_eq rfl) (hb hby at_53) (fun _ _ => ⟨rfl, e147, (by decide : 0 + 0 ≤ _), (by decide : 0 + 0 ≤ _)⟩)
    dsimp only [Pt.U, Pt.locs, Pt.cells, Pt.slots] at X148 l148 y148 z148 st148 hQ148
    subst l148 y148 z148
    obtain ⟨rfl, N148q, e148⟩ := hQ148
    have N148 := Fr.app N147 N148q
    obtain ⟨v27, hv27⟩ : ∃ z : Int32, z = (if (own_r2 v23 (2 : Int32) (2 : Int32)) = (own_r3 v1 v23) then (1 : Int32) else (0 : Int32)) := ⟨_, rfl⟩
    obtain ⟨T151, lc151, X151, N151, e151, st151⟩ := own_mrg (n0 := n0) (h := h0) (g := (mkF m 56 #[.val (.int p0), .val (.int p1), .val (.int p2), .val (.int v1), .val (.ref u_BuiltInCall_BuiltIn_LANG_MATCHES), .val (.int v23), .val (.int v25), .unset] [(.int (own_r3 v1 v23)), (.int (own_r2 v23 (2 : Int32) (2 : Int32)))])) (g' := (mkF m 64 #[.val (.int p0), .val (.int p1), .val (.int p2), .val (.int v1), .val (.ref u_BuiltInCall_BuiltIn_LANG_MATCHES), .val (.int v23), .val (.int v25), .unset] [(.int v27)])) X148 (by
      by_cases hc56_26 : (own_r2 v23 (2 : Int32) (2 : Int32)) = (own_r3 v1 v23)
      · have hgo149 : ∀ t, Steps p.tables e below (T148.setTop (mkF m 64 #[.val (.int p0), .val (.int p1), .val (.int p2), .val (.int v1), .val (.ref u_BuiltInCall_BuiltIn_LANG_MATCHES), .val (.int v23), .val (.int v25), .unset] [(.int (1 : Int32))])) t → Steps p.tables e below (T148.setTop (mkF m 56 #[.val (.int p0), .val (.int p1), .val (.int p2), .val (.int v1), .val (.ref u_BuiltInCall_BuiltIn_LANG_MATCHES), .val (.int v23), .val (.int v25), .unset] [(.int (own_r3 v1 v23)), (.int (own_r2 v23 (2 : Int32) (2 : Int32)))])) t := by
          intro t kt
          show Steps p.tables e below (T148.setTop (mkF m 56 #[.val (.int p0), .val (.int p1), .val (.int p2), .val (.int v1), .val (.ref u_BuiltInCall_BuiltIn_LANG_MATCHES), .val (.int v23), .val (.int v25), .unset] [(.int (own_r3 v1 v23)), (.int (own_r2 v23 (2 : Int32) (2 : Int32)))])) _
          refine XS.icmpNo X148.here hx rfl (hb hby at_56) rfl (teq hc56_26).2 ?_
          show Steps p.tables e below (T148.setTop (mkF m 59 #[.val (.int p0), .val (.int p1), .val (.int p2), .val (.int v1), .val (.ref u_BuiltInCall_BuiltIn_LANG_MATCHES), .val (.int v23), .val (.int v25), .unset] [])) _
          refine XS.iconst X148.here hx rfl (hb hby at_59) ?_
          show Steps p.tables e below (T148.setTop (mkF m 60 #[.val (.int p0), .val (.int p1), .val (.int p2), .val (.int v1), .val (.ref u_BuiltInCall_BuiltIn_LANG_MATCHES), .val (.int v23), .val (.int v25), .unset] [(.int (1 : Int32))])) _
          refine XS.goto X148.here hx rfl (pc0 := 60) (pc' := 64) rfl (hb hby at_60) (by decide) (by decide) ?_
          exact kt
        refine own_arm hgo149 ?_
        exact own_armEnd X148 N148 e148 (by rw [hv27.trans (if_pos hc56_26)])
      · have hgo150 : ∀ t, Steps p.tables e below (T148.setTop (mkF m 64 #[.val (.int p0), .val (.int p1), .val (.int p2), .val (.int v1), .val (.ref u_BuiltInCall_BuiltIn_LANG_MATCHES), .val (.int v23), .val (.int v25), .unset] [(.int (0 : Int32))])) t → Steps p.tables e below (T148.setTop (mkF m 56 #[.val (.int p0), .val (.int p1), .val (.int p2), .val (.int v1), .val (.ref u_BuiltInCall_BuiltIn_LANG_MATCHES), .val (.int v23), .val (.int v25), .unset] [(.int (own_r3 v1 v23)), (.int (own_r2 v23 (2 : Int32) (2 : Int32)))])) t := by
          intro t kt
          show Steps p.tables e below (T148.setTop (mkF m 56 #[.val (.int p0), .val (.int p1), .val (.int p2), .val (.int v1), .val (.ref u_BuiltInCall_BuiltIn_LANG_MATCHES), .val (.int v23), .val (.int v25), .unset] [(.int (own_r3 v1 v23)), (.int (own_r2 v23 (2 : Int32) (2 : Int32)))])) _
          refine XS.icmpYes X148.here hx rfl (pc0 := 56) (pc' := 63) rfl (hb hby at_56) rfl (feq hc56_26).2 (by decide) (by decide) ?_
          show Steps p.tables e below (T148.setTop (mkF m 63 #[.val (.int p0), .val (.int p1), .val (.int p2), .val (.int v1), .val (.ref u_BuiltInCall_BuiltIn_LANG_MATCHES), .val (.int v23), .val (.int v25), .unset] [])) _
          refine XS.iconst X148.here hx rfl (hb hby at_63) ?_
          exact kt
        refine own_arm hgo150 ?_
        exact own_armEnd X148 N148 e148 (by rw [hv27.trans (if_neg hc56_26)]))
    obtain ⟨v30, hv30⟩ : ∃ z : Int32, z = (if v27 = (0 : Int32) then (0 : Int32) else (1 : Int32)) := ⟨_, rfl⟩
    obtain ⟨v31, hv31⟩ : ∃ z : Int32, z = (if v25 = (0 : Int32) then (0 : Int32) else v30) := ⟨_, rfl⟩
    obtain ⟨T157, lc157, X157, N157, e157, st157⟩ := own_mrg (n0 := n0) (h := h0) (g := (mkF m 68 #[.val (.int p0), .val (.int p1), .val (.int p2), .val (.int v1), .val (.ref u_BuiltInCall_BuiltIn_LANG_MATCHES), .val (.int v23), .val (.int v25), .val (.int v27)] [(.int v25)])) (g' := (mkF m 81 #[.val (.int p0), .val (.int p1), .val (.int p2), .val (.int v1), .val (.ref u_BuiltInCall_BuiltIn_LANG_MATCHES), .val (.int v23), .val (.int v25), .val (.int v27)] [(.int v31)])) X151 (by
      by_cases hc68_28 : v25 = (0 : Int32)
      · have hgo152 : ∀ t, Steps p.tables e below (T151.setTop (mkF m 81 #[.val (.int p0), .val (.int p1), .val (.int p2), .val (.int v1), .val (.ref u_BuiltInCall_BuiltIn_LANG_MATCHES), .val (.int v23), .val (.int v25), .val (.int v27)] [(.int (0 : Int32))])) t → Steps p.tables e below (T151.setTop (mkF m 68 #[.val (.int p0), .val (.int p1), .val (.int p2), .val (.int v1), .val (.ref u_BuiltInCall_BuiltIn_LANG_MATCHES), .val (.int v23), .val (.int v25), .val (.int v27)] [(.int v25)])) t := by
          intro t kt
          show Steps p.tables e below (T151.setTop (mkF m 68 #[.val (.int p0), .val (.int p1), .val (.int p2), .val (.int v1), .val (.ref u_BuiltInCall_BuiltIn_LANG_MATCHES), .val (.int v23), .val (.int v25), .val (.int v27)] [(.int v25)])) _
          refine XS.ifYes X151.here hx rfl (pc0 := 68) (pc' := 80) rfl (hb hby at_68) rfl ((if0 _ _).trans (teq hc68_28).1) (by decide) (by decide) ?_
          show Steps p.tables e below (T151.setTop (mkF m 80 #[.val (.int p0), .val (.int p1), .val (.int p2), .val (.int v1), .val (.ref u_BuiltInCall_BuiltIn_LANG_MATCHES), .val (.int v23), .val (.int v25), .val (.int v27)] [])) _
          refine XS.iconst X151.here hx rfl (hb hby at_80) ?_
          exact kt
        refine own_arm hgo152 ?_
        exact own_armEnd X151 N151 e151 (by rw [hv31.trans (if_pos hc68_28)])
      · obtain ⟨T155, lc155, X155, N155, e155, st155⟩ := own_mrg (n0 := n0) (h := h0) (g := (mkF m 73 #[.val (.int p0), .val (.int p1), .val (.int p2), .val (.int v1), .val (.ref u_BuiltInCall_BuiltIn_LANG_MATCHES), .val (.int v23), .val (.int v25), .val (.int v27)] [(.int v27)])) (g' := (mkF m 81 #[.val (.int p0), .val (.int p1), .val (.int p2), .val (.int v1), .val (.ref u_BuiltInCall_BuiltIn_LANG_MATCHES), .val (.int v23), .val (.int v25), .val (.int v27)] [(.int v30)])) X151 (by
          by_cases hc73_29 : v27 = (0 : Int32)
          · have hgo153 : ∀ t, Steps p.tables e below (T151.setTop (mkF m 81 #[.val (.int p0), .val (.int p1), .val (.int p2), .val (.int v1), .val (.ref u_BuiltInCall_BuiltIn_LANG_MATCHES), .val (.int v23), .val (.int v25), .val (.int v27)] [(.int (0 : Int32))])) t → Steps p.tables e below (T151.setTop (mkF m 73 #[.val (.int p0), .val (.int p1), .val (.int p2), .val (.int v1), .val (.ref u_BuiltInCall_BuiltIn_LANG_MATCHES), .val (.int v23), .val (.int v25), .val (.int v27)] [(.int v27)])) t := by
              intro t kt
              show Steps p.tables e below (T151.setTop (mkF m 73 #[.val (.int p0), .val (.int p1), .val (.int p2), .val (.int v1), .val (.ref u_BuiltInCall_BuiltIn_LANG_MATCHES), .val (.int v23), .val (.int v25), .val (.int v27)] [(.int v27)])) _
              refine XS.ifYes X151.here hx rfl (pc0 := 73) (pc' := 80) rfl (hb hby at_73) rfl ((if0 _ _).trans (teq hc73_29).1) (by decide) (by decide) ?_
              show Steps p.tables e below (T151.setTop (mkF m 80 #[.val (.int p0), .val (.int p1), .val (.int p2), .val (.int v1), .val (.ref u_BuiltInCall_BuiltIn_LANG_MATCHES), .val (.int v23), .val (.int v25), .val (.int v27)] [])) _
              refine XS.iconst X151.here hx rfl (hb hby at_80) ?_
              exact kt
            refine own_arm hgo153 ?_
            exact own_armEnd X151 N151 e151 (by rw [hv30.trans (if_pos hc73_29)])
          · have hgo154 : ∀ t, Steps p.tables e below (T151.setTop (mkF m 81 #[.val (.int p0), .val (.int p1), .val (.int p2), .val (.int v1), .val (.ref u_BuiltInCall_BuiltIn_LANG_MATCHES), .val (.int v23), .val (.int v25), .val (.int v27)] [(.int (1 : Int32))])) t → Steps p.tables e below (T151.setTop (mkF m 73 #[.val (.int p0), .val (.int p1), .val (.int p2), .val (.int v1), .val (.ref u_BuiltInCall_BuiltIn_LANG_MATCHES), .val (.int v23), .val (.int v25), .val (.int v27)] [(.int v27)])) t := by
              intro t kt
              show Steps p.tables e below (T151.setTop (mkF m 73 #[.val (.int p0), .val (.int p1), .val (.int p2), .val (.int v1), .val (.ref u_BuiltInCall_BuiltIn_LANG_MATCHES), .val (.int v23), .val (.int v25), .val (.int v27)] [(.int v27)])) _
              refine XS.ifNo X151.here hx rfl (hb hby at_73) rfl ((if0 _ _).trans (feq hc73_29).1) ?_
              show Steps p.tables e below (T151.setTop (mkF m 76 #[.val (.int p0), .val (.int p1), .val (.int p2), .val (.int v1), .val (.ref u_BuiltInCall_BuiltIn_LANG_MATCHES), .val (.int v23), .val (.int v25), .val (.int v27)] [])) _
              refine XS.iconst X151.here hx rfl (hb hby at_76) ?_
              show Steps p.tables e below (T151.setTop (mkF m 77 #[.val (.int p0), .val (.int p1), .val (.int p2), .val (.int v1), .val (.ref u_BuiltInCall_BuiltIn_LANG_MATCHES), .val (.int v23), .val (.int v25), .val (.int v27)] [(.int (1 : Int32))])) _
              refine XS.goto X151.here hx rfl (pc0 := 77) (pc' := 81) rfl (hb hby at_77) (by decide) (by decide) ?_
              exact kt
            refine own_arm hgo154 ?_
            exact own_armEnd X151 N151 e151 (by rw [hv30.trans (if_neg hc73_29)]))
        have hgo156 : ∀ t, Steps p.tables e below (T155.setTop (mkF m 81 #[.val (.int p0), .val (.int p1), .val (.int p2), .val (.int v1), .val (.ref u_BuiltInCall_BuiltIn_LANG_MATCHES), .val (.int v23), .val (.int v25), .val (.int v27)] [(.int v30)])) t → Steps p.tables e below (T151.setTop (mkF m 68 #[.val (.int p0), .val (.int p1), .val (.int p2), .val (.int v1), .val (.ref u_BuiltInCall_BuiltIn_LANG_MATCHES), .val (.int v23), .val (.int v25), .val (.int v27)] [(.int v25)])) t := by
          intro t kt
          show Steps p.tables e below (T151.setTop (mkF m 68 #[.val (.int p0), .val (.int p1), .val (.int p2), .val (.int v1), .val (.ref u_BuiltInCall_BuiltIn_LANG_MATCHES), .val (.int v23), .val (.int v25), .val (.int v27)] [(.int v25)])) _
          refine XS.ifNo X151.here hx rfl (hb hby at_68) rfl ((if0 _ _).trans (feq hc68_28).1) ?_
          show Steps p.tables e below (T151.setTop (mkF m 71 #[.val (.int p0), .val (.int p1), .val (.int p2), .val (.int v1), .val (.ref u_BuiltInCall_BuiltIn_LANG_MATCHES), .val (.int v23), .val (.int v25), .val (.int v27)] [])) _
          refine XS.iload X151.here hx rfl (hb hby at_71) rfl ?_
          show Steps p.tables e below (T151.setTop (mkF m 73 #[.val (.int p0), .val (.int p1), .val (.int p2), .val (.int v1), .val (.ref u_BuiltInCall_BuiltIn_LANG_MATCHES), .val (.int v23), .val (.int v25), .val (.int v27)] [(.int v27)])) _
          refine st155 _ ?_
          exact kt
        refine own_arm hgo156 ?_
        exact own_armEnd X155 N155 e155 (by rw [hv31.trans (if_neg hc68_28)]))
    have hgo158 : ∀ t, Steps p.tables e below (T157.setTop (mkF m 81 #[.val (.int p0), .val (.int p1), .val (.int p2), .val (.int v1), .val (.ref u_BuiltInCall_BuiltIn_LANG_MATCHES), .val (.int v23), .val (.int v25), .val (.int v27)] [(.int v31)])) t → Steps p.tables e below (s₁.setTop (mkF m 9 #[.val (.int p0), .val (.int p1), .val (.int p2), .val (.int v1), .unset, .unset, .unset, .unset] [(.int v1)])) t := by
      intro t kt
      show Steps p.tables e below (s₁.setTop (mkF m 9 #[.val (.int p0), .val (.int p1), .val (.int p2), .val (.int v1), .unset, .unset, .unset, .unset] [(.int v1)])) _
      refine st141 _ ?_
      show Steps p.tables e below (T141.setTop (mkF m 12 #[.val (.int p0), .val (.int p1), .val (.int p2), .val (.int v1), .unset, .unset, .unset, .unset] [(.ref u_BuiltInCall_BuiltIn_LANG_MATCHES)])) _
      refine XS.astore X141.here hx rfl (hb hby at_12) rfl rfl (l' := #[.val (.int p0), .val (.int p1), .val (.int p2), .val (.int v1), .val (.ref u_BuiltInCall_BuiltIn_LANG_MATCHES), .unset, .unset, .unset]) rfl ?_
      show Steps p.tables e below (T141.setTop (mkF m 14 #[.val (.int p0), .val (.int p1), .val (.int p2), .val (.int v1), .val (.ref u_BuiltInCall_BuiltIn_LANG_MATCHES), .unset, .unset, .unset] [])) _
      refine XS.iloadN X141.here hx rfl (hb hby at_14) rfl ?_
      show Steps p.tables e below (T141.setTop (mkF m 15 #[.val (.int p0), .val (.int p1), .val (.int p2), .val (.int v1), .val (.ref u_BuiltInCall_BuiltIn_LANG_MATCHES), .unset, .unset, .unset] [(.int p2)])) _
      refine XS.bipush X141.here hx rfl (hb hby at_15) ?_
      show Steps p.tables e below (T141.setTop (mkF m 17 #[.val (.int p0), .val (.int p1), .val (.int p2), .val (.int v1), .val (.ref u_BuiltInCall_BuiltIn_LANG_MATCHES), .unset, .unset, .unset] [(.int (7 : Int32)), (.int p2)])) _
      refine XS.iand X141.here hx rfl (hb hby at_17) rfl ?_
      show Steps p.tables e below (T141.setTop (mkF m 18 #[.val (.int p0), .val (.int p1), .val (.int p2), .val (.int v1), .val (.ref u_BuiltInCall_BuiltIn_LANG_MATCHES), .unset, .unset, .unset] [(.int (p2 &&& (7 : Int32)))])) _
      refine XS.iconst X141.here hx rfl (hb hby at_18) ?_
      show Steps p.tables e below (T141.setTop (mkF m 19 #[.val (.int p0), .val (.int p1), .val (.int p2), .val (.int v1), .val (.ref u_BuiltInCall_BuiltIn_LANG_MATCHES), .unset, .unset, .unset] [(.int (2 : Int32)), (.int (p2 &&& (7 : Int32)))])) _
      refine XS.isub X141.here hx rfl (hb hby at_19) rfl ?_
      show Steps p.tables e below (T141.setTop (mkF m 20 #[.val (.int p0), .val (.int p1), .val (.int p2), .val (.int v1), .val (.ref u_BuiltInCall_BuiltIn_LANG_MATCHES), .unset, .unset, .unset] [(.int ((p2 &&& (7 : Int32)) - (2 : Int32)))])) _
      rw [← hv23]
      show Steps p.tables e below (T141.setTop (mkF m 20 #[.val (.int p0), .val (.int p1), .val (.int p2), .val (.int v1), .val (.ref u_BuiltInCall_BuiltIn_LANG_MATCHES), .unset, .unset, .unset] [(.int v23)])) _
      refine XS.istore X141.here hx rfl (hb hby at_20) rfl (l' := #[.val (.int p0), .val (.int p1), .val (.int p2), .val (.int v1), .val (.ref u_BuiltInCall_BuiltIn_LANG_MATCHES), .val (.int v23), .unset, .unset]) rfl ?_
      show Steps p.tables e below (T141.setTop (mkF m 22 #[.val (.int p0), .val (.int p1), .val (.int p2), .val (.int v1), .val (.ref u_BuiltInCall_BuiltIn_LANG_MATCHES), .val (.int v23), .unset, .unset] [])) _
      refine XS.aload X141.here hx rfl (hb hby at_22) rfl rfl ?_
      show Steps p.tables e below (T141.setTop (mkF m 24 #[.val (.int p0), .val (.int p1), .val (.int p2), .val (.int v1), .val (.ref u_BuiltInCall_BuiltIn_LANG_MATCHES), .val (.int v23), .unset, .unset] [(.ref u_BuiltInCall_BuiltIn_LANG_MATCHES)])) _
      refine XS.iloadN X141.here hx rfl (hb hby at_24) rfl ?_
      show Steps p.tables e below (T141.setTop (mkF m 25 #[.val (.int p0), .val (.int p1), .val (.int p2), .val (.int v1), .val (.ref u_BuiltInCall_BuiltIn_LANG_MATCHES), .val (.int v23), .unset, .unset] [(.int p1), (.ref u_BuiltInCall_BuiltIn_LANG_MATCHES)])) _
      refine st142.trans ?_
      show Steps p.tables e below (T142.setTop (mkF m 28 #[.val (.int p0), .val (.int p1), .val (.int p2), .val (.int v1), .val (.ref u_BuiltInCall_BuiltIn_LANG_MATCHES), .val (.int v23), .unset, .unset] [(.int (own_r2 p1 (2 : Int32) (2 : Int32)))])) _
      refine XS.iloadN X142.here hx rfl (hb hby at_28) rfl ?_
      show Steps p.tables e below (T142.setTop (mkF m 29 #[.val (.int p0), .val (.int p1), .val (.int p2), .val (.int v1), .val (.ref u_BuiltInCall_BuiltIn_LANG_MATCHES), .val (.int v23), .unset, .unset] [(.int v1), (.int (own_r2 p1 (2 : Int32) (2 : Int32)))])) _
      refine XS.iloadN X142.here hx rfl (hb hby at_29) rfl ?_
      show Steps p.tables e below (T142.setTop (mkF m 30 #[.val (.int p0), .val (.int p1), .val (.int p2), .val (.int v1), .val (.ref u_BuiltInCall_BuiltIn_LANG_MATCHES), .val (.int v23), .unset, .unset] [(.int p1), (.int v1), (.int (own_r2 p1 (2 : Int32) (2 : Int32)))])) _
      refine st143 _ ?_
      show Steps p.tables e below (T143.setTop (mkF m 33 #[.val (.int p0), .val (.int p1), .val (.int p2), .val (.int v1), .val (.ref u_BuiltInCall_BuiltIn_LANG_MATCHES), .val (.int v23), .unset, .unset] [(.int (own_r3 v1 p1)), (.int (own_r2 p1 (2 : Int32) (2 : Int32)))])) _
      refine st146 _ ?_
      show Steps p.tables e below (T146.setTop (mkF m 41 #[.val (.int p0), .val (.int p1), .val (.int p2), .val (.int v1), .val (.ref u_BuiltInCall_BuiltIn_LANG_MATCHES), .val (.int v23), .unset, .unset] [(.int v25)])) _
      refine XS.istore X146.here hx rfl (hb hby at_41) rfl (l' := #[.val (.int p0), .val (.int p1), .val (.int p2), .val (.int v1), .val (.ref u_BuiltInCall_BuiltIn_LANG_MATCHES), .val (.int v23), .val (.int v25), .unset]) rfl ?_
      show Steps p.tables e below (T146.setTop (mkF m 43 #[.val (.int p0), .val (.int p1), .val (.int p2), .val (.int v1), .val (.ref u_BuiltInCall_BuiltIn_LANG_MATCHES), .val (.int v23), .val (.int v25), .unset] [])) _
      refine XS.aload X146.here hx rfl (hb hby at_43) rfl rfl ?_
      show Steps p.tables e below (T146.setTop (mkF m 45 #[.val (.int p0), .val (.int p1), .val (.int p2), .val (.int v1), .val (.ref u_BuiltInCall_BuiltIn_LANG_MATCHES), .val (.int v23), .val (.int v25), .unset] [(.ref u_BuiltInCall_BuiltIn_LANG_MATCHES)])) _
      refine XS.iload X146.here hx rfl (hb hby at_45) rfl ?_
      show Steps p.tables e below (T146.setTop (mkF m 47 #[.val (.int p0), .val (.int p1), .val (.int p2), .val (.int v1), .val (.ref u_BuiltInCall_BuiltIn_LANG_MATCHES), .val (.int v23), .val (.int v25), .unset] [(.int v23), (.ref u_BuiltInCall_BuiltIn_LANG_MATCHES)])) _
      refine st147.trans ?_
      show Steps p.tables e below (T147.setTop (mkF m 50 #[.val (.int p0), .val (.int p1), .val (.int p2), .val (.int v1), .val (.ref u_BuiltInCall_BuiltIn_LANG_MATCHES), .val (.int v23), .val (.int v25), .unset] [(.int (own_r2 v23 (2 : Int32) (2 : Int32)))])) _
      refine XS.iloadN X147.here hx rfl (hb hby at_50) rfl ?_
      show Steps p.tables e below (T147.setTop (mkF m 51 #[.val (.int p0), .val (.int p1), .val (.int p2), .val (.int v1), .val (.ref u_BuiltInCall_BuiltIn_LANG_MATCHES), .val (.int v23), .val (.int v25), .unset] [(.int v1), (.int (own_r2 v23 (2 : Int32) (2 : Int32)))])) _
      refine XS.iload X147.here hx rfl (hb hby at_51) rfl ?_
      show Steps p.tables e below (T147.setTop (mkF m 53 #[.val (.int p0), .val (.int p1), .val (.int p2), .val (.int v1), .val (.ref u_BuiltInCall_BuiltIn_LANG_MATCHES), .val (.int v23), .val (.int v25), .unset] [(.int v23), (.int v1), (.int (own_r2 v23 (2 : Int32) (2 : Int32)))])) _
      refine st148 _ ?_
      show Steps p.tables e below (T148.setTop (mkF m 56 #[.val (.int p0), .val (.int p1), .val (.int p2), .val (.int v1), .val (.ref u_BuiltInCall_BuiltIn_LANG_MATCHES), .val (.int v23), .val (.int v25), .unset] [(.int (own_r3 v1 v23)), (.int (own_r2 v23 (2 : Int32) (2 : Int32)))])) _
      refine st151 _ ?_
      show Steps p.tables e below (T151.setTop (mkF m 64 #[.val (.int p0), .val (.int p1), .val (.int p2), .val (.int v1), .val (.ref u_BuiltInCall_BuiltIn_LANG_MATCHES), .val (.int v23), .val (.int v25), .unset] [(.int v27)])) _
      refine XS.istore X151.here hx rfl (hb hby at_64) rfl (l' := #[.val (.int p0), .val (.int p1), .val (.int p2), .val (.int v1), .val (.ref u_BuiltInCall_BuiltIn_LANG_MATCHES), .val (.int v23), .val (.int v25), .val (.int v27)]) rfl ?_
      show Steps p.tables e below (T151.setTop (mkF m 66 #[.val (.int p0), .val (.int p1), .val (.int p2), .val (.int v1), .val (.ref u_BuiltInCall_BuiltIn_LANG_MATCHES), .val (.int v23), .val (.int v25), .val (.int v27)] [])) _
      refine XS.iload X151.here hx rfl (hb hby at_66) rfl ?_
      show Steps p.tables e below (T151.setTop (mkF m 68 #[.val (.int p0), .val (.int p1), .val (.int p2), .val (.int v1), .val (.ref u_BuiltInCall_BuiltIn_LANG_MATCHES), .val (.int v23), .val (.int v25), .val (.int v27)] [(.int v25)])) _
      refine st157 _ ?_
      exact kt
    refine own_go hgo158 ?_
    have hz159 : v31 = 1 := own_leaf2 (p0 := p0) (p1 := p1) (p2 := p2) (u_BuiltInCall_BuiltIn_STR := u_BuiltInCall_BuiltIn_STR) (u_BuiltInCall_BuiltIn_LANG := u_BuiltInCall_BuiltIn_LANG) (u_BuiltInCall_BuiltIn_SAME_TERM := u_BuiltInCall_BuiltIn_SAME_TERM) (u_BuiltInCall_BuiltIn_IS_IRI := u_BuiltInCall_BuiltIn_IS_IRI) (u_BuiltInCall_BuiltIn_IS_LITERAL := u_BuiltInCall_BuiltIn_IS_LITERAL) (u_BuiltInCall_BuiltIn_DATATYPE := u_BuiltInCall_BuiltIn_DATATYPE) (u_BuiltInCall_BuiltIn_IS_URI := u_BuiltInCall_BuiltIn_IS_URI) (u_BuiltInCall_BuiltIn_IS_BLANK := u_BuiltInCall_BuiltIn_IS_BLANK) (u_BuiltInCall_BuiltIn_REGEX := u_BuiltInCall_BuiltIn_REGEX) (u_BuiltInCall_BuiltIn_LANG_MATCHES := u_BuiltInCall_BuiltIn_LANG_MATCHES) hv1 hv23 hv25 hv27 hv30 hv31 hs9_2 hs9_12 hs9_22
    exact own_retZ X157 hx Bd.returns Bd.notSynchronized (hb hby at_81) (by decide) (by decide) (Or.inr hz159) ⟨by rw [hz159], N157⟩
  by_cases hs9_32 : v1 = (3 : Int32)
  · obtain ⟨_, _, ⟨T160, L160, k160, n160⟩, -, X160, ⟨Lc160, hQ160, l160, y160, z160⟩, st160⟩ := Jvm.LawKit.callS X0 hx (y := (⟨"com/example/muset/muset/sparql/BuiltInTakesPinLaw", "pick", "(I)Lcom/example/muset/muset/sparql/BuiltInCall$BuiltIn;"⟩ : MethodName)) hown (mvT hZ (hw _ (List.mem_of_getElem? (i := 1) rfl))) (mvT hZ (hw _ (List.mem_of_getElem? (i := 2) rfl))) (mvT hZ (hw _ (List.mem_of_getElem? (i := 3) rfl))) (mvT hZ (hw _ (List.mem_of_getElem? (i := 4) rfl))) (by decide) (backOf (W := 0) (rm1_3 l Z a0 hw [] v1 u_BuiltInCall_BuiltIn_DATATYPE h0 n0 Z0 (by first | assumption | decide : ¬ (v1 = (0 : Int32))) (by first | assumption | decide : ¬ (v1 = (1 : Int32))) (by first | assumption | decide : ¬ (v1 = (2 : Int32))) (by first | assumption | decide : v1 = (3 : Int32)) S_u_BuiltInCall_BuiltIn_DATATYPE) hZ (hw _ (List.mem_of_getElem? (i := 4) rfl)) (hw _ (List.mem_of_getElem? (i := 3) rfl)) (by decide) (by decide)) (g := (mkF m 9 #[.val (.int p0), .val (.int p1), .val (.int p2), .val (.int v1), .unset, .unset, .unset, .unset] [(.int v1)])) rfl (by rw [hml]; rfl) (argsL := [(.int v1)]) (rest := []) (lenOf pd2 rfl) rfl (by show 2 * 0 + _ ≤ _; exact Nat.le_of_eq rfl) (hb hby at_9) (fun _ _ => ⟨rfl, e0, (by decide : 0 + 0 ≤ _), (by decide : 0 + 0 ≤ _)⟩)
    dsimp only [Pt.U, Pt.locs, Pt.cells, Pt.slots] at X160 l160 y160 z160 st160 hQ160
    subst l160 y160 z160
    obtain ⟨rfl, N160q, e160⟩ := hQ160
    have N160 := Fr.app N0 N160q
    obtain ⟨v33, hv33⟩ : ∃ z : Int32, z = ((p2 &&& (7 : Int32)) - (2 : Int32)) := ⟨_, rfl⟩
    obtain ⟨cq161, kq161, q161a, q161b, q161c⟩ := isOf hZ e160 E_u_BuiltInCall_BuiltIn_DATATYPE
    obtain ⟨_, _, ⟨T161, L161, k161, n161⟩, -, X161, ⟨Lc161, hQ161, l161, y161, z161⟩, st161⟩ := X160.virtualBack hx (y := (⟨"com/example/muset/muset/sparql/BuiltInCall$BuiltIn", "takes", "(I)Z"⟩ : MethodName)) (z := (⟨"com/example/muset/muset/sparql/BuiltInCall$BuiltIn", "takes", "(I)Z"⟩ : MethodName)) hown (mvT hZ (hw _ (List.mem_of_getElem? (i := 8) rfl))) (mvT hZ (hw _ (List.mem_of_getElem? (i := 9) rfl))) (notFace_of_selects (args := #[]) (mvT hZ (hw _ (List.mem_of_getElem? (i := 11) rfl)))) (mvT hZ (hw _ (List.mem_of_getElem? (i := 11) rfl))) (mvT hZ (hw _ (List.mem_of_getElem? (i := 10) rfl))) (by decide) (backOf (W := 0) (rm2 l Z a0 hw [] u_BuiltInCall_BuiltIn_DATATYPE p1 (1 : Int32) (1 : Int32) h0 n0 Z0 F_minArguments_u_BuiltInCall_BuiltIn_DATATYPE F_maxArguments_u_BuiltInCall_BuiltIn_DATATYPE) hZ (hw _ (List.mem_of_getElem? (i := 12) rfl)) (hw _ (List.mem_of_getElem? (i := 6) rfl)) (by decide) (by decide)) q161a q161c (g := (mkF m 25 #[.val (.int p0), .val (.int p1), .val (.int p2), .val (.int v1), .val (.ref u_BuiltInCall_BuiltIn_DATATYPE), .val (.int v33), .unset, .unset] [(.int p1), (.ref u_BuiltInCall_BuiltIn_DATATYPE)])) rfl (by rw [hml]; rfl) (Steps.refl _) (argsL := [(.int p1)]) (rest := []) (lenOf pd3 rfl) rfl (by show 2 * 0 + _ ≤ _; exact Nat.le_of_eq rfl) (hb hby at_25) (fun _ _ => ⟨rfl, e160, (by decide : 0 + 0 ≤ _), (by decide : 0 + 0 ≤ _)⟩)
    dsimp only [Pt.U, Pt.locs, Pt.cells, Pt.slots] at X161 l161 y161 z161 st161 hQ161
    subst l161 y161 z161
    obtain ⟨rfl, N161q, e161⟩ := hQ161
    have N161 := Fr.app N160 N161q
    obtain ⟨_, _, ⟨T162, L162, k162, n162⟩, -, X162, ⟨Lc162, hQ162, l162, y162, z162⟩, st162⟩ := Jvm.LawKit.callS X161 hx (y := (⟨"com/example/muset/muset/sparql/BuiltInTakesPinLaw", "expected", "(II)Z"⟩ : MethodName)) hown (mvT hZ (hw _ (List.mem_of_getElem? (i := 17) rfl))) (mvT hZ (hw _ (List.mem_of_getElem? (i := 18) rfl))) (mvT hZ (hw _ (List.mem_of_getElem? (i := 3) rfl))) (mvT hZ (hw _ (List.mem_of_getElem? (i := 19) rfl))) (by decide) (backOf (W := 1) (rm3 l Z a0 hw [] v1 p1 h0 n0 Z0 ) hZ (hw _ (List.mem_of_getElem? (i := 19) rfl)) (hw _ (List.mem_of_getElem? (i := 3) rfl)) (by decide) (by decide)) (g := (mkF m 30 #[.val (.int p0), .val (.int p1), .val (.int p2), .val (.int v1), .val (.ref u_BuiltInCall_BuiltIn_DATATYPE), .val (.int v33), .unset, .unset] [(.int p1), (.int v1), (.int (own_r2 p1 (1 : Int32) (1 : Int32)))])) rfl (by rw [hml]; rfl) (argsL := [(.int v1), (.int p1)]) (rest := [(.int (own_r2 p1 (1 : Int32) (1 : Int32)))]) (lenOf pd4 rfl) rfl (by show 2 * 0 + _ ≤ _; exact Nat.le_of_eq rfl) (hb hby at_30) (fun _ _ => ⟨rfl, e161, (by decide : 0 + 0 ≤ _), (by decide : 0 + 0 ≤ _)⟩)
    dsimp only [Pt.U, Pt.locs, Pt.cells, Pt.slots] at X162 l162 y162 z162 st162 hQ162
    subst l162 y162 z162
    obtain ⟨rfl, N162q, e162⟩ := hQ162
    have N162 := Fr.app N161 N162q
    obtain ⟨v35, hv35⟩ : ∃ z : Int32, z = (if (own_r2 p1 (1 : Int32) (1 : Int32)) = (own_r3 v1 p1) then (1 : Int32) else (0 : Int32)) := ⟨_, rfl⟩
    obtain ⟨T165, lc165, X165, N165, e165, st165⟩ := own_mrg (n0 := n0) (h := h0) (g := (mkF m 33 #[.val (.int p0), .val (.int p1), .val (.int p2), .val (.int v1), .val (.ref u_BuiltInCall_BuiltIn_DATATYPE), .val (.int v33), .unset, .unset] [(.int (own_r3 v1 p1)), (.int (own_r2 p1 (1 : Int32) (1 : Int32)))])) (g' := (mkF m 41 #[.val (.int p0), .val (.int p1), .val (.int p2), .val (.int v1), .val (.ref u_BuiltInCall_BuiltIn_DATATYPE), .val (.int v33), .unset, .unset] [(.int v35)])) X162 (by
      by_cases hc33_34 : (own_r2 p1 (1 : Int32) (1 : Int32)) = (own_r3 v1 p1)
      · have hgo163 : ∀ t, Steps p.tables e below (T162.setTop (mkF m 41 #[.val (.int p0), .val (.int p1), .val (.int p2), .val (.int v1), .val (.ref u_BuiltInCall_BuiltIn_DATATYPE), .val (.int v33), .unset, .unset] [(.int (1 : Int32))])) t → Steps p.tables e below (T162.setTop (mkF m 33 #[.val (.int p0), .val (.int p1), .val (.int p2), .val (.int v1), .val (.ref u_BuiltInCall_BuiltIn_DATATYPE), .val (.int v33), .unset, .unset] [(.int (own_r3 v1 p1)), (.int (own_r2 p1 (1 : Int32) (1 : Int32)))])) t := by
          intro t kt
          show Steps p.tables e below (T162.setTop (mkF m 33 #[.val (.int p0), .val (.int p1), .val (.int p2), .val (.int v1), .val (.ref u_BuiltInCall_BuiltIn_DATATYPE), .val (.int v33), .unset, .unset] [(.int (own_r3 v1 p1)), (.int (own_r2 p1 (1 : Int32) (1 : Int32)))])) _
          refine XS.icmpNo X162.here hx rfl (hb hby at_33) rfl (teq hc33_34).2 ?_
          show Steps p.tables e below (T162.setTop (mkF m 36 #[.val (.int p0), .val (.int p1), .val (.int p2), .val (.int v1), .val (.ref u_BuiltInCall_BuiltIn_DATATYPE), .val (.int v33), .unset, .unset] [])) _
          refine XS.iconst X162.here hx rfl (hb hby at_36) ?_
          show Steps p.tables e below (T162.setTop (mkF m 37 #[.val (.int p0), .val (.int p1), .val (.int p2), .val (.int v1), .val (.ref u_BuiltInCall_BuiltIn_DATATYPE), .val (.int v33), .unset, .unset] [(.int (1 : Int32))])) _
          refine XS.goto X162.here hx rfl (pc0 := 37) (pc' := 41) rfl (hb hby at_37) (by decide) (by decide) ?_
          exact kt
        refine own_arm hgo163 ?_
        exact own_armEnd X162 N162 e162 (by rw [hv35.trans (if_pos hc33_34)])
      · have hgo164 : ∀ t, Steps p.tables e below (T162.setTop (mkF m 41 #[.val (.int p0), .val (.int p1), .val (.int p2), .val (.int v1), .val (.ref u_BuiltInCall_BuiltIn_DATATYPE), .val (.int v33), .unset, .unset] [(.int (0 : Int32))])) t → Steps p.tables e below (T162.setTop (mkF m 33 #[.val (.int p0), .val (.int p1), .val (.int p2), .val (.int v1), .val (.ref u_BuiltInCall_BuiltIn_DATATYPE), .val (.int v33), .unset, .unset] [(.int (own_r3 v1 p1)), (.int (own_r2 p1 (1 : Int32) (1 : Int32)))])) t := by
          intro t kt
          show Steps p.tables e below (T162.setTop (mkF m 33 #[.val (.int p0), .val (.int p1), .val (.int p2), .val (.int v1), .val (.ref u_BuiltInCall_BuiltIn_DATATYPE), .val (.int v33), .unset, .unset] [(.int (own_r3 v1 p1)), (.int (own_r2 p1 (1 : Int32) (1 : Int32)))])) _
          refine XS.icmpYes X162.here hx rfl (pc0 := 33) (pc' := 40) rfl (hb hby at_33) rfl (feq hc33_34).2 (by decide) (by decide) ?_
          show Steps p.tables e below (T162.setTop (mkF m 40 #[.val (.int p0), .val (.int p1), .val (.int p2), .val (.int v1), .val (.ref u_BuiltInCall_BuiltIn_DATATYPE), .val (.int v33), .unset, .unset] [])) _
          refine XS.iconst X162.here hx rfl (hb hby at_40) ?_
          exact kt
        refine own_arm hgo164 ?_
        exact own_armEnd X162 N162 e162 (by rw [hv35.trans (if_neg hc33_34)]))
    obtain ⟨cq166, kq166, q166a, q166b, q166c⟩ := isOf hZ e165 E_u_BuiltInCall_BuiltIn_DATATYPE
    obtain ⟨_, _, ⟨T166, L166, k166, n166⟩, -, X166, ⟨Lc166, hQ166, l166, y166, z166⟩, st166⟩ := X165.virtualBack hx (y := (⟨"com/example/muset/muset/sparql/BuiltInCall$BuiltIn", "takes", "(I)Z"⟩ : MethodName)) (z := (⟨"com/example/muset/muset/sparql/BuiltInCall$BuiltIn", "takes", "(I)Z"⟩ : MethodName)) hown (mvT hZ (hw _ (List.mem_of_getElem? (i := 8) rfl))) (mvT hZ (hw _ (List.mem_of_getElem? (i := 9) rfl))) (notFace_of_selects (args := #[]) (mvT hZ (hw _ (List.mem_of_getElem? (i := 11) rfl)))) (mvT hZ (hw _ (List.mem_of_getElem? (i := 11) rfl))) (mvT hZ (hw _ (List.mem_of_getElem? (i := 10) rfl))) (by decide) (backOf (W := 0) (rm2 l Z a0 hw [] u_BuiltInCall_BuiltIn_DATATYPE v33 (1 : Int32) (1 : Int32) h0 n0 Z0 F_minArguments_u_BuiltInCall_BuiltIn_DATATYPE F_maxArguments_u_BuiltInCall_BuiltIn_DATATYPE) hZ (hw _ (List.mem_of_getElem? (i := 12) rfl)) (hw _ (List.mem_of_getElem? (i := 6) rfl)) (by decide) (by decide)) q166a q166c (g := (mkF m 47 #[.val (.int p0), .val (.int p1), .val (.int p2), .val (.int v1), .val (.ref u_BuiltInCall_BuiltIn_DATATYPE), .val (.int v33), .val (.int v35), .unset] [(.int v33), (.ref u_BuiltInCall_BuiltIn_DATATYPE)])) rfl (by rw [hml]; rfl) (Steps.refl _) (argsL := [(.int v33)]) (rest := []) (lenOf pd3 rfl) rfl (by show 2 * 0 + _ ≤ _; exact Nat.le_of_eq rfl) (hb hby at_47) (fun _ _ => ⟨rfl, e165, (by decide : 0 + 0 ≤ _), (by decide : 0 + 0 ≤ _)⟩)
    dsimp only [Pt.U, Pt.locs, Pt.cells, Pt.slots] at X166 l166 y166 z166 st166 hQ166
    subst l166 y166 z166
    obtain ⟨rfl, N166q, e166⟩ := hQ166
    have N166 := Fr.app N165 N166q
    obtain ⟨_, _, ⟨T167, L167, k167, n167⟩, -, X167, ⟨Lc167, hQ167, l167, y167, z167⟩, st167⟩ := Jvm.LawKit.callS X166 hx (y := (⟨"com/example/muset/muset/sparql/BuiltInTakesPinLaw", "expected", "(II)Z"⟩ : MethodName)) hown (mvT hZ (hw _ (List.mem_of_getElem? (i := 17) rfl))) (mvT hZ (hw _ (List.mem_of_getElem? (i := 18) rfl))) (mvT hZ (hw _ (List.mem_of_getElem? (i := 3) rfl))) (mvT hZ (hw _ (List.mem_of_getElem? (i := 19) rfl))) (by decide) (backOf (W := 1) (rm3 l Z a0 hw [] v1 v33 h0 n0 Z0 ) hZ (hw _ (List.mem_of_getElem? (i := 19) rfl)) (hw _ (List.mem_of_getElem? (i := 3) rfl)) (by decide) (by decide)) (g := (mkF m 53 #[.val (.int p0), .val (.int p1), .val (.int p2), .val (.int v1), .val (.ref u_BuiltInCall_BuiltIn_DATATYPE), .val (.int v33), .val (.int v35), .unset] [(.int v33), (.int v1), (.int (own_r2 v33 (1 : Int32) (1 : Int32)))])) rfl (by rw [hml]; rfl) (argsL := [(.int v1), (.int v33)]) (rest := [(.int (own_r2 v33 (1 : Int32) (1 : Int32)))]) (lenOf pd4 rfl) rfl (by show 2 * 0 + _ ≤ _; exact Nat.le_of_eq rfl) (hb hby at_53) (fun _ _ => ⟨rfl, e166, (by decide : 0 + 0 ≤ _), (by decide : 0 + 0 ≤ _)⟩)
    dsimp only [Pt.U, Pt.locs, Pt.cells, Pt.slots] at X167 l167 y167 z167 st167 hQ167
    subst l167 y167 z167
    obtain ⟨rfl, N167q, e167⟩ := hQ167
    have N167 := Fr.app N166 N167q
    obtain ⟨v37, hv37⟩ : ∃ z : Int32, z = (if (own_r2 v33 (1 : Int32) (1 : Int32)) = (own_r3 v1 v33) then (1 : Int32) else (0 : Int32)) := ⟨_, rfl⟩
    obtain ⟨T170, lc170, X170, N170, e170, st170⟩ := own_mrg (n0 := n0) (h := h0) (g := (mkF m 56 #[.val (.int p0), .val (.int p1), .val (.int p2), .val (.int v1), .val (.ref u_BuiltInCall_BuiltIn_DATATYPE), .val (.int v33), .val (.int v35), .unset] [(.int (own_r3 v1 v33)), (.int (own_r2 v33 (1 : Int32) (1 : Int32)))])) (g' := (mkF m 64 #[.val (.int p0), .val (.int p1), .val (.int p2), .val (.int v1), .val (.ref u_BuiltInCall_BuiltIn_DATATYPE), .val (.int v33), .val (.int v35), .unset] [(.int v37)])) X167 (by
      by_cases hc56_36 : (own_r2 v33 (1 : Int32) (1 : Int32)) = (own_r3 v1 v33)
      · have hgo168 : ∀ t, Steps p.tables e below (T167.setTop (mkF m 64 #[.val (.int p0), .val (.int p1), .val (.int p2), .val (.int v1), .val (.ref u_BuiltInCall_BuiltIn_DATATYPE), .val (.int v33), .val (.int v35), .unset] [(.int (1 : Int32))])) t → Steps p.tables e below (T167.setTop (mkF m 56 #[.val (.int p0), .val (.int p1), .val (.int p2), .val (.int v1), .val (.ref u_BuiltInCall_BuiltIn_DATATYPE), .val (.int v33), .val (.int v35), .unset] [(.int (own_r3 v1 v33)), (.int (own_r2 v33 (1 : Int32) (1 : Int32)))])) t := by
          intro t kt
          show Steps p.tables e below (T167.setTop (mkF m 56 #[.val (.int p0), .val (.int p1), .val (.int p2), .val (.int v1), .val (.ref u_BuiltInCall_BuiltIn_DATATYPE), .val (.int v33), .val (.int v35), .unset] [(.int (own_r3 v1 v33)), (.int (own_r2 v33 (1 : Int32) (1 : Int32)))])) _
          refine XS.icmpNo X167.here hx rfl (hb hby at_56) rfl (teq hc56_36).2 ?_
          show Steps p.tables e below (T167.setTop (mkF m 59 #[.val (.int p0), .val (.int p1), .val (.int p2), .val (.int v1), .val (.ref u_BuiltInCall_BuiltIn_DATATYPE), .val (.int v33), .val (.int v35), .unset] [])) _
          refine XS.iconst X167.here hx rfl (hb hby at_59) ?_
          show Steps p.tables e below (T167.setTop (mkF m 60 #[.val (.int p0), .val (.int p1), .val (.int p2), .val (.int v1), .val (.ref u_BuiltInCall_BuiltIn_DATATYPE), .val (.int v33), .val (.int v35), .unset] [(.int (1 : Int32))])) _
          refine XS.goto X167.here hx rfl (pc0 := 60) (pc' := 64) rfl (hb hby at_60) (by decide) (by decide) ?_
          exact kt
        refine own_arm hgo168 ?_
        exact own_armEnd X167 N167 e167 (by rw [hv37.trans (if_pos hc56_36)])
      · have hgo169 : ∀ t, Steps p.tables e below (T167.setTop (mkF m 64 #[.val (.int p0), .val (.int p1), .val (.int p2), .val (.int v1), .val (.ref u_BuiltInCall_BuiltIn_DATATYPE), .val (.int v33), .val (.int v35), .unset] [(.int (0 : Int32))])) t → Steps p.tables e below (T167.setTop (mkF m 56 #[.val (.int p0), .val (.int p1), .val (.int p2), .val (.int v1), .val (.ref u_BuiltInCall_BuiltIn_DATATYPE), .val (.int v33), .val (.int v35), .unset] [(.int (own_r3 v1 v33)), (.int (own_r2 v33 (1 : Int32) (1 : Int32)))])) t := by
          intro t kt
          show Steps p.tables e below (T167.setTop (mkF m 56 #[.val (.int p0), .val (.int p1), .val (.int p2), .val (.int v1), .val (.ref u_BuiltInCall_BuiltIn_DATATYPE), .val (.int v33), .val (.int v35), .unset] [(.int (own_r3 v1 v33)), (.int (own_r2 v33 (1 : Int32) (1 : Int32)))])) _
          refine XS.icmpYes X167.here hx rfl (pc0 := 56) (pc' := 63) rfl (hb hby at_56) rfl (feq hc56_36).2 (by decide) (by decide) ?_
          show Steps p.tables e below (T167.setTop (mkF m 63 #[.val (.int p0), .val (.int p1), .val (.int p2), .val (.int v1), .val (.ref u_BuiltInCall_BuiltIn_DATATYPE), .val (.int v33), .val (.int v35), .unset] [])) _
          refine XS.iconst X167.here hx rfl (hb hby at_63) ?_
          exact kt
        refine own_arm hgo169 ?_
        exact own_armEnd X167 N167 e167 (by rw [hv37.trans (if_neg hc56_36)]))
    obtain ⟨v40, hv40⟩ : ∃ z : Int32, z = (if v37 = (0 : Int32) then (0 : Int32) else (1 : Int32)) := ⟨_, rfl⟩
    obtain ⟨v41, hv41⟩ : ∃ z : Int32, z = (if v35 = (0 : Int32) then (0 : Int32) else v40) := ⟨_, rfl⟩
    obtain ⟨T176, lc176, X176, N176, e176, st176⟩ := own_mrg (n0 := n0) (h := h0) (g := (mkF m 68 #[.val (.int p0), .val (.int p1), .val (.int p2), .val (.int v1), .val (.ref u_BuiltInCall_BuiltIn_DATATYPE), .val (.int v33), .val (.int v35), .val (.int v37)] [(.int v35)])) (g' := (mkF m 81 #[.val (.int p0), .val (.int p1), .val (.int p2), .val (.int v1), .val (.ref u_BuiltInCall_BuiltIn_DATATYPE), .val (.int v33), .val (.int v35), .val (.int v37)] [(.int v41)])) X170 (by
      by_cases hc68_38 : v35 = (0 : Int32)
      · have hgo171 : ∀ t, Steps p.tables e below (T170.setTop (mkF m 81 #[.val (.int p0), .val (.int p1), .val (.int p2), .val (.int v1), .val (.ref u_BuiltInCall_BuiltIn_DATATYPE), .val (.int v33), .val (.int v35), .val (.int v37)] [(.int (0 : Int32))])) t → Steps p.tables e below (T170.setTop (mkF m 68 #[.val (.int p0), .val (.int p1), .val (.int p2), .val (.int v1), .val (.ref u_BuiltInCall_BuiltIn_DATATYPE), .val (.int v33), .val (.int v35), .val (.int v37)] [(.int v35)])) t := by
          intro t kt
          show Steps p.tables e below (T170.setTop (mkF m 68 #[.val (.int p0), .val (.int p1), .val (.int p2), .val (.int v1), .val (.ref u_BuiltInCall_BuiltIn_DATATYPE), .val (.int v33), .val (.int v35), .val (.int v37)] [(.int v35)])) _
          refine XS.ifYes X170.here hx rfl (pc0 := 68) (pc' := 80) rfl (hb hby at_68) rfl ((if0 _ _).trans (teq hc68_38).1) (by decide) (by decide) ?_
          show Steps p.tables e below (T170.setTop (mkF m 80 #[.val (.int p0), .val (.int p1), .val (.int p2), .val (.int v1), .val (.ref u_BuiltInCall_BuiltIn_DATATYPE), .val (.int v33), .val (.int v35), .val (.int v37)] [])) _
          refine XS.iconst X170.here hx rfl (hb hby at_80) ?_
          exact kt
        refine own_arm hgo171 ?_
        exact own_armEnd X170 N170 e170 (by rw [hv41.trans (if_pos hc68_38)])
      · obtain ⟨T174, lc174, X174, N174, e174, st174⟩ := own_mrg (n0 := n0) (h := h0) (g := (mkF m 73 #[.val (.int p0), .val (.int p1), .val (.int p2), .val (.int v1), .val (.ref u_BuiltInCall_BuiltIn_DATATYPE), .val (.int v33), .val (.int v35), .val (.int v37)] [(.int v37)])) (g' := (mkF m 81 #[.val (.int p0), .val (.int p1), .val (.int p2), .val (.int v1), .val (.ref u_BuiltInCall_BuiltIn_DATATYPE), .val (.int v33), .val (.int v35), .val (.int v37)] [(.int v40)])) X170 (by
          by_cases hc73_39 : v37 = (0 : Int32)
          · have hgo172 : ∀ t, Steps p.tables e below (T170.setTop (mkF m 81 #[.val (.int p0), .val (.int p1), .val (.int p2), .val (.int v1), .val (.ref u_BuiltInCall_BuiltIn_DATATYPE), .val (.int v33), .val (.int v35), .val (.int v37)] [(.int (0 : Int32))])) t → Steps p.tables e below (T170.setTop (mkF m 73 #[.val (.int p0), .val (.int p1), .val (.int p2), .val (.int v1), .val (.ref u_BuiltInCall_BuiltIn_DATATYPE), .val (.int v33), .val (.int v35), .val (.int v37)] [(.int v37)])) t := by
              intro t kt
              show Steps p.tables e below (T170.setTop (mkF m 73 #[.val (.int p0), .val (.int p1), .val (.int p2), .val (.int v1), .val (.ref u_BuiltInCall_BuiltIn_DATATYPE), .val (.int v33), .val (.int v35), .val (.int v37)] [(.int v37)])) _
              refine XS.ifYes X170.here hx rfl (pc0 := 73) (pc' := 80) rfl (hb hby at_73) rfl ((if0 _ _).trans (teq hc73_39).1) (by decide) (by decide) ?_
              show Steps p.tables e below (T170.setTop (mkF m 80 #[.val (.int p0), .val (.int p1), .val (.int p2), .val (.int v1), .val (.ref u_BuiltInCall_BuiltIn_DATATYPE), .val (.int v33), .val (.int v35), .val (.int v37)] [])) _
              refine XS.iconst X170.here hx rfl (hb hby at_80) ?_
              exact kt
            refine own_arm hgo172 ?_
            exact own_armEnd X170 N170 e170 (by rw [hv40.trans (if_pos hc73_39)])
          · have hgo173 : ∀ t, Steps p.tables e below (T170.setTop (mkF m 81 #[.val (.int p0), .val (.int p1), .val (.int p2), .val (.int v1), .val (.ref u_BuiltInCall_BuiltIn_DATATYPE), .val (.int v33), .val (.int v35), .val (.int v37)] [(.int (1 : Int32))])) t → Steps p.tables e below (T170.setTop (mkF m 73 #[.val (.int p0), .val (.int p1), .val (.int p2), .val (.int v1), .val (.ref u_BuiltInCall_BuiltIn_DATATYPE), .val (.int v33), .val (.int v35), .val (.int v37)] [(.int v37)])) t := by
              intro t kt
              show Steps p.tables e below (T170.setTop (mkF m 73 #[.val (.int p0), .val (.int p1), .val (.int p2), .val (.int v1), .val (.ref u_BuiltInCall_BuiltIn_DATATYPE), .val (.int v33), .val (.int v35), .val (.int v37)] [(.int v37)])) _
              refine XS.ifNo X170.here hx rfl (hb hby at_73) rfl ((if0 _ _).trans (feq hc73_39).1) ?_
              show Steps p.tables e below (T170.setTop (mkF m 76 #[.val (.int p0), .val (.int p1), .val (.int p2), .val (.int v1), .val (.ref u_BuiltInCall_BuiltIn_DATATYPE), .val (.int v33), .val (.int v35), .val (.int v37)] [])) _
              refine XS.iconst X170.here hx rfl (hb hby at_76) ?_
              show Steps p.tables e below (T170.setTop (mkF m 77 #[.val (.int p0), .val (.int p1), .val (.int p2), .val (.int v1), .val (.ref u_BuiltInCall_BuiltIn_DATATYPE), .val (.int v33), .val (.int v35), .val (.int v37)] [(.int (1 : Int32))])) _
              refine XS.goto X170.here hx rfl (pc0 := 77) (pc' := 81) rfl (hb hby at_77) (by decide) (by decide) ?_
              exact kt
            refine own_arm hgo173 ?_
            exact own_armEnd X170 N170 e170 (by rw [hv40.trans (if_neg hc73_39)]))
        have hgo175 : ∀ t, Steps p.tables e below (T174.setTop (mkF m 81 #[.val (.int p0), .val (.int p1), .val (.int p2), .val (.int v1), .val (.ref u_BuiltInCall_BuiltIn_DATATYPE), .val (.int v33), .val (.int v35), .val (.int v37)] [(.int v40)])) t → Steps p.tables e below (T170.setTop (mkF m 68 #[.val (.int p0), .val (.int p1), .val (.int p2), .val (.int v1), .val (.ref u_BuiltInCall_BuiltIn_DATATYPE), .val (.int v33), .val (.int v35), .val (.int v37)] [(.int v35)])) t := by
          intro t kt
          show Steps p.tables e below (T170.setTop (mkF m 68 #[.val (.int p0), .val (.int p1), .val (.int p2), .val (.int v1), .val (.ref u_BuiltInCall_BuiltIn_DATATYPE), .val (.int v33), .val (.int v35), .val (.int v37)] [(.int v35)])) _
          refine XS.ifNo X170.here hx rfl (hb hby at_68) rfl ((if0 _ _).trans (feq hc68_38).1) ?_
          show Steps p.tables e below (T170.setTop (mkF m 71 #[.val (.int p0), .val (.int p1), .val (.int p2), .val (.int v1), .val (.ref u_BuiltInCall_BuiltIn_DATATYPE), .val (.int v33), .val (.int v35), .val (.int v37)] [])) _
          refine XS.iload X170.here hx rfl (hb hby at_71) rfl ?_
          show Steps p.tables e below (T170.setTop (mkF m 73 #[.val (.int p0), .val (.int p1), .val (.int p2), .val (.int v1), .val (.ref u_BuiltInCall_BuiltIn_DATATYPE), .val (.int v33), .val (.int v35), .val (.int v37)] [(.int v37)])) _
          refine st174 _ ?_
          exact kt
        refine own_arm hgo175 ?_
        exact own_armEnd X174 N174 e174 (by rw [hv41.trans (if_neg hc68_38)]))
    have hgo177 : ∀ t, Steps p.tables e below (T176.setTop (mkF m 81 #[.val (.int p0), .val (.int p1), .val (.int p2), .val (.int v1), .val (.ref u_BuiltInCall_BuiltIn_DATATYPE), .val (.int v33), .val (.int v35), .val (.int v37)] [(.int v41)])) t → Steps p.tables e below (s₁.setTop (mkF m 9 #[.val (.int p0), .val (.int p1), .val (.int p2), .val (.int v1), .unset, .unset, .unset, .unset] [(.int v1)])) t := by
      intro t kt
      show Steps p.tables e below (s₁.setTop (mkF m 9 #[.val (.int p0), .val (.int p1), .val (.int p2), .val (.int v1), .unset, .unset, .unset, .unset] [(.int v1)])) _
      refine st160 _ ?_
      show Steps p.tables e below (T160.setTop (mkF m 12 #[.val (.int p0), .val (.int p1), .val (.int p2), .val (.int v1), .unset, .unset, .unset, .unset] [(.ref u_BuiltInCall_BuiltIn_DATATYPE)])) _
      refine XS.astore X160.here hx rfl (hb hby at_12) rfl rfl (l' := #[.val (.int p0), .val (.int p1), .val (.int p2), .val (.int v1), .val (.ref u_BuiltInCall_BuiltIn_DATATYPE), .unset, .unset, .unset]) rfl ?_
      show Steps p.tables e below (T160.setTop (mkF m 14 #[.val (.int p0), .val (.int p1), .val (.int p2), .val (.int v1), .val (.ref u_BuiltInCall_BuiltIn_DATATYPE), .unset, .unset, .unset] [])) _
      refine XS.iloadN X160.here hx rfl (hb hby at_14) rfl ?_
      show Steps p.tables e below (T160.setTop (mkF m 15 #[.val (.int p0), .val (.int p1), .val (.int p2), .val (.int v1), .val (.ref u_BuiltInCall_BuiltIn_DATATYPE), .unset, .unset, .unset] [(.int p2)])) _
      refine XS.bipush X160.here hx rfl (hb hby at_15) ?_
      show Steps p.tables e below (T160.setTop (mkF m 17 #[.val (.int p0), .val (.int p1), .val (.int p2), .val (.int v1), .val (.ref u_BuiltInCall_BuiltIn_DATATYPE), .unset, .unset, .unset] [(.int (7 : Int32)), (.int p2)])) _
      refine XS.iand X160.here hx rfl (hb hby at_17) rfl ?_
      show Steps p.tables e below (T160.setTop (mkF m 18 #[.val (.int p0), .val (.int p1), .val (.int p2), .val (.int v1), .val (.ref u_BuiltInCall_BuiltIn_DATATYPE), .unset, .unset, .unset] [(.int (p2 &&& (7 : Int32)))])) _
      refine XS.iconst X160.here hx rfl (hb hby at_18) ?_
      show Steps p.tables e below (T160.setTop (mkF m 19 #[.val (.int p0), .val (.int p1), .val (.int p2), .val (.int v1), .val (.ref u_BuiltInCall_BuiltIn_DATATYPE), .unset, .unset, .unset] [(.int (2 : Int32)), (.int (p2 &&& (7 : Int32)))])) _
      refine XS.isub X160.here hx rfl (hb hby at_19) rfl ?_
      show Steps p.tables e below (T160.setTop (mkF m 20 #[.val (.int p0), .val (.int p1), .val (.int p2), .val (.int v1), .val (.ref u_BuiltInCall_BuiltIn_DATATYPE), .unset, .unset, .unset] [(.int ((p2 &&& (7 : Int32)) - (2 : Int32)))])) _
      rw [← hv33]
      show Steps p.tables e below (T160.setTop (mkF m 20 #[.val (.int p0), .val (.int p1), .val (.int p2), .val (.int v1), .val (.ref u_BuiltInCall_BuiltIn_DATATYPE), .unset, .unset, .unset] [(.int v33)])) _
      refine XS.istore X160.here hx rfl (hb hby at_20) rfl (l' := #[.val (.int p0), .val (.int p1), .val (.int p2), .val (.int v1), .val (.ref u_BuiltInCall_BuiltIn_DATATYPE), .val (.int v33), .unset, .unset]) rfl ?_
      show Steps p.tables e below (T160.setTop (mkF m 22 #[.val (.int p0), .val (.int p1), .val (.int p2), .val (.int v1), .val (.ref u_BuiltInCall_BuiltIn_DATATYPE), .val (.int v33), .unset, .unset] [])) _
      refine XS.aload X160.here hx rfl (hb hby at_22) rfl rfl ?_
      show Steps p.tables e below (T160.setTop (mkF m 24 #[.val (.int p0), .val (.int p1), .val (.int p2), .val (.int v1), .val (.ref u_BuiltInCall_BuiltIn_DATATYPE), .val (.int v33), .unset, .unset] [(.ref u_BuiltInCall_BuiltIn_DATATYPE)])) _
      refine XS.iloadN X160.here hx rfl (hb hby at_24) rfl ?_
      show Steps p.tables e below (T160.setTop (mkF m 25 #[.val (.int p0), .val (.int p1), .val (.int p2), .val (.int v1), .val (.ref u_BuiltInCall_BuiltIn_DATATYPE), .val (.int v33), .unset, .unset] [(.int p1), (.ref u_BuiltInCall_BuiltIn_DATATYPE)])) _
      refine st161.trans ?_
      show Steps p.tables e below (T161.setTop (mkF m 28 #[.val (.int p0), .val (.int p1), .val (.int p2), .val (.int v1), .val (.ref u_BuiltInCall_BuiltIn_DATATYPE), .val (.int v33), .unset, .unset] [(.int (own_r2 p1 (1 : Int32) (1 : Int32)))])) _
      refine XS.iloadN X161.here hx rfl (hb hby at_28) rfl ?_
      show Steps p.tables e below (T161.setTop (mkF m 29 #[.val (.int p0), .val (.int p1), .val (.int p2), .val (.int v1), .val (.ref u_BuiltInCall_BuiltIn_DATATYPE), .val (.int v33), .unset, .unset] [(.int v1), (.int (own_r2 p1 (1 : Int32) (1 : Int32)))])) _
      refine XS.iloadN X161.here hx rfl (hb hby at_29) rfl ?_
      show Steps p.tables e below (T161.setTop (mkF m 30 #[.val (.int p0), .val (.int p1), .val (.int p2), .val (.int v1), .val (.ref u_BuiltInCall_BuiltIn_DATATYPE), .val (.int v33), .unset, .unset] [(.int p1), (.int v1), (.int (own_r2 p1 (1 : Int32) (1 : Int32)))])) _
      refine st162 _ ?_
      show Steps p.tables e below (T162.setTop (mkF m 33 #[.val (.int p0), .val (.int p1), .val (.int p2), .val (.int v1), .val (.ref u_BuiltInCall_BuiltIn_DATATYPE), .val (.int v33), .unset, .unset] [(.int (own_r3 v1 p1)), (.int (own_r2 p1 (1 : Int32) (1 : Int32)))])) _
      refine st165 _ ?_
      show Steps p.tables e below (T165.setTop (mkF m 41 #[.val (.int p0), .val (.int p1), .val (.int p2), .val (.int v1), .val (.ref u_BuiltInCall_BuiltIn_DATATYPE), .val (.int v33), .unset, .unset] [(.int v35)])) _
      refine XS.istore X165.here hx rfl (hb hby at_41) rfl (l' := #[.val (.int p0), .val (.int p1), .val (.int p2), .val (.int v1), .val (.ref u_BuiltInCall_BuiltIn_DATATYPE), .val (.int v33), .val (.int v35), .unset]) rfl ?_
      show Steps p.tables e below (T165.setTop (mkF m 43 #[.val (.int p0), .val (.int p1), .val (.int p2), .val (.int v1), .val (.ref u_BuiltInCall_BuiltIn_DATATYPE), .val (.int v33), .val (.int v35), .unset] [])) _
      refine XS.aload X165.here hx rfl (hb hby at_43) rfl rfl ?_
      show Steps p.tables e below (T165.setTop (mkF m 45 #[.val (.int p0), .val (.int p1), .val (.int p2), .val (.int v1), .val (.ref u_BuiltInCall_BuiltIn_DATATYPE), .val (.int v33), .val (.int v35), .unset] [(.ref u_BuiltInCall_BuiltIn_DATATYPE)])) _
      refine XS.iload X165.here hx rfl (hb hby at_45) rfl ?_
      show Steps p.tables e below (T165.setTop (mkF m 47 #[.val (.int p0), .val (.int p1), .val (.int p2), .val (.int v1), .val (.ref u_BuiltInCall_BuiltIn_DATATYPE), .val (.int v33), .val (.int v35), .unset] [(.int v33), (.ref u_BuiltInCall_BuiltIn_DATATYPE)])) _
      refine st166.trans ?_
      show Steps p.tables e below (T166.setTop (mkF m 50 #[.val (.int p0), .val (.int p1), .val (.int p2), .val (.int v1), .val (.ref u_BuiltInCall_BuiltIn_DATATYPE), .val (.int v33), .val (.int v35), .unset] [(.int (own_r2 v33 (1 : Int32) (1 : Int32)))])) _
      refine XS.iloadN X166.here hx rfl (hb hby at_50) rfl ?_
      show Steps p.tables e below (T166.setTop (mkF m 51 #[.val (.int p0), .val (.int p1), .val (.int p2), .val (.int v1), .val (.ref u_BuiltInCall_BuiltIn_DATATYPE), .val (.int v33), .val (.int v35), .unset] [(.int v1), (.int (own_r2 v33 (1 : Int32) (1 : Int32)))])) _
      refine XS.iload X166.here hx rfl (hb hby at_51) rfl ?_
      show Steps p.tables e below (T166.setTop (mkF m 53 #[.val (.int p0), .val (.int p1), .val (.int p2), .val (.int v1), .val (.ref u_BuiltInCall_BuiltIn_DATATYPE), .val (.int v33), .val (.int v35), .unset] [(.int v33), (.int v1), (.int (own_r2 v33 (1 : Int32) (1 : Int32)))])) _
      refine st167 _ ?_
      show Steps p.tables e below (T167.setTop (mkF m 56 #[.val (.int p0), .val (.int p1), .val (.int p2), .val (.int v1), .val (.ref u_BuiltInCall_BuiltIn_DATATYPE), .val (.int v33), .val (.int v35), .unset] [(.int (own_r3 v1 v33)), (.int (own_r2 v33 (1 : Int32) (1 : Int32)))])) _
      refine st170 _ ?_
      show Steps p.tables e below (T170.setTop (mkF m 64 #[.val (.int p0), .val (.int p1), .val (.int p2), .val (.int v1), .val (.ref u_BuiltInCall_BuiltIn_DATATYPE), .val (.int v33), .val (.int v35), .unset] [(.int v37)])) _
      refine XS.istore X170.here hx rfl (hb hby at_64) rfl (l' := #[.val (.int p0), .val (.int p1), .val (.int p2), .val (.int v1), .val (.ref u_BuiltInCall_BuiltIn_DATATYPE), .val (.int v33), .val (.int v35), .val (.int v37)]) rfl ?_
      show Steps p.tables e below (T170.setTop (mkF m 66 #[.val (.int p0), .val (.int p1), .val (.int p2), .val (.int v1), .val (.ref u_BuiltInCall_BuiltIn_DATATYPE), .val (.int v33), .val (.int v35), .val (.int v37)] [])) _
      refine XS.iload X170.here hx rfl (hb hby at_66) rfl ?_
      show Steps p.tables e below (T170.setTop (mkF m 68 #[.val (.int p0), .val (.int p1), .val (.int p2), .val (.int v1), .val (.ref u_BuiltInCall_BuiltIn_DATATYPE), .val (.int v33), .val (.int v35), .val (.int v37)] [(.int v35)])) _
      refine st176 _ ?_
      exact kt
    refine own_go hgo177 ?_
    have hz178 : v41 = 1 := own_leaf3 (p0 := p0) (p1 := p1) (p2 := p2) (u_BuiltInCall_BuiltIn_STR := u_BuiltInCall_BuiltIn_STR) (u_BuiltInCall_BuiltIn_LANG := u_BuiltInCall_BuiltIn_LANG) (u_BuiltInCall_BuiltIn_SAME_TERM := u_BuiltInCall_BuiltIn_SAME_TERM) (u_BuiltInCall_BuiltIn_IS_IRI := u_BuiltInCall_BuiltIn_IS_IRI) (u_BuiltInCall_BuiltIn_IS_LITERAL := u_BuiltInCall_BuiltIn_IS_LITERAL) (u_BuiltInCall_BuiltIn_DATATYPE := u_BuiltInCall_BuiltIn_DATATYPE) (u_BuiltInCall_BuiltIn_IS_URI := u_BuiltInCall_BuiltIn_IS_URI) (u_BuiltInCall_BuiltIn_IS_BLANK := u_BuiltInCall_BuiltIn_IS_BLANK) (u_BuiltInCall_BuiltIn_REGEX := u_BuiltInCall_BuiltIn_REGEX) (u_BuiltInCall_BuiltIn_LANG_MATCHES := u_BuiltInCall_BuiltIn_LANG_MATCHES) hv1 hv33 hv35 hv37 hv40 hv41 hs9_2 hs9_12 hs9_22 hs9_32
    exact own_retZ X176 hx Bd.returns Bd.notSynchronized (hb hby at_81) (by decide) (by decide) (Or.inr hz178) ⟨by rw [hz178], N176⟩
  by_cases hs9_42 : v1 = (4 : Int32)
  · obtain ⟨_, _, ⟨T179, L179, k179, n179⟩, -, X179, ⟨Lc179, hQ179, l179, y179, z179⟩, st179⟩ := Jvm.LawKit.callS X0 hx (y := (⟨"com/example/muset/muset/sparql/BuiltInTakesPinLaw", "pick", "(I)Lcom/example/muset/muset/sparql/BuiltInCall$BuiltIn;"⟩ : MethodName)) hown (mvT hZ (hw _ (List.mem_of_getElem? (i := 1) rfl))) (mvT hZ (hw _ (List.mem_of_getElem? (i := 2) rfl))) (mvT hZ (hw _ (List.mem_of_getElem? (i := 3) rfl))) (mvT hZ (hw _ (List.mem_of_getElem? (i := 4) rfl))) (by decide) (backOf (W := 0) (rm1_4 l Z a0 hw [] v1 u_BuiltInCall_BuiltIn_SAME_TERM h0 n0 Z0 (by first | assumption | decide : ¬ (v1 = (0 : Int32))) (by first | assumption | decide : ¬ (v1 = (1 : Int32))) (by first | assumption | decide : ¬ (v1 = (2 : Int32))) (by first | assumption | decide : ¬ (v1 = (3 : Int32))) (by first | assumption | decide : v1 = (4 : Int32)) S_u_BuiltInCall_BuiltIn_SAME_TERM) hZ (hw _ (List.mem_of_getElem? (i := 4) rfl)) (hw _ (List.mem_of_getElem? (i := 3) rfl)) (by decide) (by decide)) (g := (mkF m 9 #[.val (.int p0), .val (.int p1), .val (.int p2), .val (.int v1), .unset, .unset, .unset, .unset] [(.int v1)])) rfl (by rw [hml]; rfl) (argsL := [(.int v1)]) (rest := []) (lenOf pd2 rfl) rfl (by show 2 * 0 + _ ≤ _; exact Nat.le_of_eq rfl) (hb hby at_9) (fun _ _ => ⟨rfl, e0, (by decide : 0 + 0 ≤ _), (by decide : 0 + 0 ≤ _)⟩)
    dsimp only [Pt.U, Pt.locs, Pt.cells, Pt.slots] at X179 l179 y179 z179 st179 hQ179
    subst l179 y179 z179
    obtain ⟨rfl, N179q, e179⟩ := hQ179
    have N179 := Fr.app N0 N179q
    obtain ⟨v43, hv43⟩ : ∃ z : Int32, z = ((p2 &&& (7 : Int32)) - (2 : Int32)) := ⟨_, rfl⟩
    obtain ⟨cq180, kq180, q180a, q180b, q180c⟩ := isOf hZ e179 E_u_BuiltInCall_BuiltIn_SAME_TERM
    obtain ⟨_, _, ⟨T180, L180, k180, n180⟩, -, X180, ⟨Lc180, hQ180, l180, y180, z180⟩, st180⟩ := X179.virtualBack hx (y := (⟨"com/example/muset/muset/sparql/BuiltInCall$BuiltIn", "takes", "(I)Z"⟩ : MethodName)) (z := (⟨"com/example/muset/muset/sparql/BuiltInCall$BuiltIn", "takes", "(I)Z"⟩ : MethodName)) hown (mvT hZ (hw _ (List.mem_of_getElem? (i := 8) rfl))) (mvT hZ (hw _ (List.mem_of_getElem? (i := 9) rfl))) (notFace_of_selects (args := #[]) (mvT hZ (hw _ (List.mem_of_getElem? (i := 11) rfl)))) (mvT hZ (hw _ (List.mem_of_getElem? (i := 11) rfl))) (mvT hZ (hw _ (List.mem_of_getElem? (i := 10) rfl))) (by decide) (backOf (W := 0) (rm2 l Z a0 hw [] u_BuiltInCall_BuiltIn_SAME_TERM p1 (2 : Int32) (2 : Int32) h0 n0 Z0 F_minArguments_u_BuiltInCall_BuiltIn_SAME_TERM F_maxArguments_u_BuiltInCall_BuiltIn_SAME_TERM) hZ (hw _ (List.mem_of_getElem? (i := 12) rfl)) (hw _ (List.mem_of_getElem? (i := 6) rfl)) (by decide) (by decide)) q180a q180c (g := (mkF m 25 #[.val (.int p0), .val (.int p1), .val (.int p2), .val (.int v1), .val (.ref u_BuiltInCall_BuiltIn_SAME_TERM), .val (.int v43), .unset, .unset] [(.int p1), (.ref u_BuiltInCall_BuiltIn_SAME_TERM)])) rfl (by rw [hml]; rfl) (Steps.refl _) (argsL := [(.int p1)]) (rest := []) (lenOf pd3 rfl) rfl (by show 2 * 0 + _ ≤ _; exact Nat.le_of_eq rfl) (hb hby at_25) (fun _ _ => ⟨rfl, e179, (by decide : 0 + 0 ≤ _), (by decide : 0 + 0 ≤ _)⟩)
    dsimp only [Pt.U, Pt.locs, Pt.cells, Pt.slots] at X180 l180 y180 z180 st180 hQ180
    subst l180 y180 z180
    obtain ⟨rfl, N180q, e180⟩ := hQ180
    have N180 := Fr.app N179 N180q
    obtain ⟨_, _, ⟨T181, L181, k181, n181⟩, -, X181, ⟨Lc181, hQ181, l181, y181, z181⟩, st181⟩ := Jvm.LawKit.callS X180 hx (y := (⟨"com/example/muset/muset/sparql/BuiltInTakesPinLaw", "expected", "(II)Z"⟩ : MethodName)) hown (mvT hZ (hw _ (List.mem_of_getElem? (i := 17) rfl))) (mvT hZ (hw _ (List.mem_of_getElem? (i := 18) rfl))) (mvT hZ (hw _ (List.mem_of_getElem? (i := 3) rfl))) (mvT hZ (hw _ (List.mem_of_getElem? (i := 19) rfl))) (by decide) (backOf (W := 1) (rm3 l Z a0 hw [] v1 p1 h0 n0 Z0 ) hZ (hw _ (List.mem_of_getElem? (i := 19) rfl)) (hw _ (List.mem_of_getElem? (i := 3) rfl)) (by decide) (by decide)) (g := (mkF m 30 #[.val (.int p0), .val (.int p1), .val (.int p2), .val (.int v1), .val (.ref u_BuiltInCall_BuiltIn_SAME_TERM), .val (.int v43), .unset, .unset] [(.int p1), (.int v1), (.int (own_r2 p1 (2 : Int32) (2 : Int32)))])) rfl (by rw [hml]; rfl) (argsL := [(.int v1), (.int p1)]) (rest := [(.int (own_r2 p1 (2 : Int32) (2 : Int32)))]) (lenOf pd4 rfl) rfl (by show 2 * 0 + _ ≤ _; exact Nat.le_of_eq rfl) (hb hby at_30) (fun _ _ => ⟨rfl, e180, (by decide : 0 + 0 ≤ _), (by decide : 0 + 0 ≤ _)⟩)
    dsimp only [Pt.U, Pt.locs, Pt.cells, Pt.slots] at X181 l181 y181 z181 st181 hQ181
    subst l181 y181 z181
    obtain ⟨rfl, N181q, e181⟩ := hQ181
    have N181 := Fr.app N180 N181q
    obtain ⟨v45, hv45⟩ : ∃ z : Int32, z = (if (own_r2 p1 (2 : Int32) (2 : Int32)) = (own_r3 v1 p1) then (1 : Int32) else (0 : Int32)) := ⟨_, rfl⟩
    obtain ⟨T184, lc184, X184, N184, e184, st184⟩ := own_mrg (n0 := n0) (h := h0) (g := (mkF m 33 #[.val (.int p0), .val (.int p1), .val (.int p2), .val (.int v1), .val (.ref u_BuiltInCall_BuiltIn_SAME_TERM), .val (.int v43), .unset, .unset] [(.int (own_r3 v1 p1)), (.int (own_r2 p1 (2 : Int32) (2 : Int32)))])) (g' := (mkF m 41 #[.val (.int p0), .val (.int p1), .val (.int p2), .val (.int v1), .val (.ref u_BuiltInCall_BuiltIn_SAME_TERM), .val (.int v43), .unset, .unset] [(.int v45)])) X181 (by
      by_cases hc33_44 : (own_r2 p1 (2 : Int32) (2 : Int32)) = (own_r3 v1 p1)
      · have hgo182 : ∀ t, Steps p.tables e below (T181.setTop (mkF m 41 #[.val (.int p0), .val (.int p1), .val (.int p2), .val (.int v1), .val (.ref u_BuiltInCall_BuiltIn_SAME_TERM), .val (.int v43), .unset, .unset] [(.int (1 : Int32))])) t → Steps p.tables e below (T181.setTop (mkF m 33 #[.val (.int p0), .val (.int p1), .val (.int p2), .val (.int v1), .val (.ref u_BuiltInCall_BuiltIn_SAME_TERM), .val (.int v43), .unset, .unset] [(.int (own_r3 v1 p1)), (.int (own_r2 p1 (2 : Int32) (2 : Int32)))])) t := by
          intro t kt
          show Steps p.tables e below (T181.setTop (mkF m 33 #[.val (.int p0), .val (.int p1), .val (.int p2), .val (.int v1), .val (.ref u_BuiltInCall_BuiltIn_SAME_TERM), .val (.int v43), .unset, .unset] [(.int (own_r3 v1 p1)), (.int (own_r2 p1 (2 : Int32) (2 : Int32)))])) _
          refine XS.icmpNo X181.here hx rfl (hb hby at_33) rfl (teq hc33_44).2 ?_
          show Steps p.tables e below (T181.setTop (mkF m 36 #[.val (.int p0), .val (.int p1), .val (.int p2), .val (.int v1), .val (.ref u_BuiltInCall_BuiltIn_SAME_TERM), .val (.int v43), .unset, .unset] [])) _
          refine XS.iconst X181.here hx rfl (hb hby at_36) ?_
          show Steps p.tables e below (T181.setTop (mkF m 37 #[.val (.int p0), .val (.int p1), .val (.int p2), .val (.int v1), .val (.ref u_BuiltInCall_BuiltIn_SAME_TERM), .val (.int v43), .unset, .unset] [(.int (1 : Int32))])) _
          refine XS.goto X181.here hx rfl (pc0 := 37) (pc' := 41) rfl (hb hby at_37) (by decide) (by decide) ?_
          exact kt
        refine own_arm hgo182 ?_
        exact own_armEnd X181 N181 e181 (by rw [hv45.trans (if_pos hc33_44)])
      · have hgo183 : ∀ t, Steps p.tables e below (T181.setTop (mkF m 41 #[.val (.int p0), .val (.int p1), .val (.int p2), .val (.int v1), .val (.ref u_BuiltInCall_BuiltIn_SAME_TERM), .val (.int v43), .unset, .unset] [(.int (0 : Int32))])) t → Steps p.tables e below (T181.setTop (mkF m 33 #[.val (.int p0), .val (.int p1), .val (.int p2), .val (.int v1), .val (.ref u_BuiltInCall_BuiltIn_SAME_TERM), .val (.int v43), .unset, .unset] [(.int (own_r3 v1 p1)), (.int (own_r2 p1 (2 : Int32) (2 : Int32)))])) t := by
          intro t kt
          show Steps p.tables e below (T181.setTop (mkF m 33 #[.val (.int p0), .val (.int p1), .val (.int p2), .val (.int v1), .val (.ref u_BuiltInCall_BuiltIn_SAME_TERM), .val (.int v43), .unset, .unset] [(.int (own_r3 v1 p1)), (.int (own_r2 p1 (2 : Int32) (2 : Int32)))])) _
          refine XS.icmpYes X181.here hx rfl (pc0 := 33) (pc' := 40) rfl (hb hby at_33) rfl (feq hc33_44).2 (by decide) (by decide) ?_
          show Steps p.tables e below (T181.setTop (mkF m 40 #[.val (.int p0), .val (.int p1), .val (.int p2), .val (.int v1), .val (.ref u_BuiltInCall_BuiltIn_SAME_TERM), .val (.int v43), .unset, .unset] [])) _
          refine XS.iconst X181.here hx rfl (hb hby at_40) ?_
          exact kt
        refine own_arm hgo183 ?_
        exact own_armEnd X181 N181 e181 (by rw [hv45.trans (if_neg hc33_44)]))
    obtain ⟨cq185, kq185, q185a, q185b, q185c⟩ := isOf hZ e184 E_u_BuiltInCall_BuiltIn_SAME_TERM
    obtain ⟨_, _, ⟨T185, L185, k185, n185⟩, -, X185, ⟨Lc185, hQ185, l185, y185, z185⟩, st185⟩ := X184.virtualBack hx (y := (⟨"com/example/muset/muset/sparql/BuiltInCall$BuiltIn", "takes", "(I)Z"⟩ : MethodName)) (z := (⟨"com/example/muset/muset/sparql/BuiltInCall$BuiltIn", "takes", "(I)Z"⟩ : MethodName)) hown (mvT hZ (hw _ (List.mem_of_getElem? (i := 8) rfl))) (mvT hZ (hw _ (List.mem_of_getElem? (i := 9) rfl))) (notFace_of_selects (args := #[]) (mvT hZ (hw _ (List.mem_of_getElem? (i := 11) rfl)))) (mvT hZ (hw _ (List.mem_of_getElem? (i := 11) rfl))) (mvT hZ (hw _ (List.mem_of_getElem? (i := 10) rfl))) (by decide) (backOf (W := 0) (rm2 l Z a0 hw [] u_BuiltInCall_BuiltIn_SAME_TERM v43 (2 : Int32) (2 : Int32) h0 n0 Z0 F_minArguments_u_BuiltInCall_BuiltIn_SAME_TERM F_maxArguments_u_BuiltInCall_BuiltIn_SAME_TERM) hZ (hw _ (List.mem_of_getElem? (i := 12) rfl)) (hw _ (List.mem_of_getElem? (i := 6) rfl)) (by decide) (by decide)) q185a q185c (g := (mkF m 47 #[.val (.int p0), .val (.int p1), .val (.int p2), .val (.int v1), .val (.ref u_BuiltInCall_BuiltIn_SAME_TERM), .val (.int v43), .val (.int v45), .unset] [(.int v43), (.ref u_BuiltInCall_BuiltIn_SAME_TERM)])) rfl (by rw [hml]; rfl) (Steps.refl _) (argsL := [(.int v43)]) (rest := []) (lenOf pd3 rfl) rfl (by show 2 * 0 + _ ≤ _; exact Nat.le_of_eq rfl) (hb hby at_47) (fun _ _ => ⟨rfl, e184, (by decide : 0 + 0 ≤ _), (by decide : 0 + 0 ≤ _)⟩)
    dsimp only [Pt.U, Pt.locs, Pt.cells, Pt.slots] at X185 l185 y185 z185 st185 hQ185
    subst l185 y185 z185
    obtain ⟨rfl, N185q, e185⟩ := hQ185
    have N185 := Fr.app N184 N185q
    obtain ⟨_, _, ⟨T186, L186, k186, n186⟩, -, X186, ⟨Lc186, hQ186, l186, y186, z186⟩, st186⟩ := Jvm.LawKit.callS X185 hx (y := (⟨"com/example/muset/muset/sparql/BuiltInTakesPinLaw", "expected", "(II)Z"⟩ : MethodName)) hown (mvT hZ (hw _ (List.mem_of_getElem? (i := 17) rfl))) (mvT hZ (hw _ (List.mem_of_getElem? (i := 18) rfl))) (mvT hZ (hw _ (List.mem_of_getElem? (i := 3) rfl))) (mvT hZ (hw _ (List.mem_of_getElem? (i := 19) rfl))) (by decide) (backOf (W := 1) (rm3 l Z a0 hw [] v1 v43 h0 n0 Z0 ) hZ (hw _ (List.mem_of_getElem? (i := 19) rfl)) (hw _ (List.mem_of_getElem? (i := 3) rfl)) (by decide) (by decide)) (g := (mkF m 53 #[.val (.int p0), .val (.int p1), .val (.int p2), .val (.int v1), .val (.ref u_BuiltInCall_BuiltIn_SAME_TERM), .val (.int v43), .val (.int v45), .unset] [(.int v43), (.int v1), (.int (own_r2 v43 (2 : Int32) (2 : Int32)))])) rfl (by rw [hml]; rfl) (argsL := [(.int v1), (.int v43)]) (rest := [(.int (own_r2 v43 (2 : Int32) (2 : Int32)))]) (lenOf pd4 rfl) rfl (by show 2 * 0 + _ ≤ _; exact Nat.le_of_eq rfl) (hb hby at_53) (fun _ _ => ⟨rfl, e185, (by decide : 0 + 0 ≤ _), (by decide : 0 + 0 ≤ _)⟩)
    dsimp only [Pt.U, Pt.locs, Pt.cells, Pt.slots] at X186 l186 y186 z186 st186 hQ186
    subst l186 y186 z186
    obtain ⟨rfl, N186q, e186⟩ := hQ186
    have N186 := Fr.app N185 N186q
    obtain ⟨v47, hv47⟩ : ∃ z : Int32, z = (if (own_r2 v43 (2 : Int32) (2 : Int32)) = (own_r3 v1 v43) then (1 : Int32) else (0 : Int32)) := ⟨_, rfl⟩
    obtain ⟨T189, lc189, X189, N189, e189, st189⟩ := own_mrg (n0 := n0) (h := h0) (g := (mkF m 56 #[.val (.int p0), .val (.int p1), .val (.int p2), .val (.int v1), .val (.ref u_BuiltInCall_BuiltIn_SAME_TERM), .val (.int v43), .val (.int v45), .unset] [(.int (own_r3 v1 v43)), (.int (own_r2 v43 (2 : Int32) (2 : Int32)))])) (g' := (mkF m 64 #[.val (.int p0), .val (.int p1), .val (.int p2), .val (.int v1), .val (.ref u_BuiltInCall_BuiltIn_SAME_TERM), .val (.int v43), .val (.int v45), .unset] [(.int v47)])) X186 (by
      by_cases hc56_46 : (own_r2 v43 (2 : Int32) (2 : Int32)) = (own_r3 v1 v43)
      · have hgo187 : ∀ t, Steps p.tables e below (T186.setTop (mkF m 64 #[.val (.int p0), .val (.int p1), .val (.int p2), .val (.int v1), .val (.ref u_BuiltInCall_BuiltIn_SAME_TERM), .val (.int v43), .val (.int v45), .unset] [(.int (1 : Int32))])) t → Steps p.tables e below (T186.setTop (mkF m 56 #[.val (.int p0), .val (.int p1), .val (.int p2), .val (.int v1), .val (.ref u_BuiltInCall_BuiltIn_SAME_TERM), .val (.int v43), .val (.int v45), .unset] [(.int (own_r3 v1 v43)), (.int (own_r2 v43 (2 : Int32) (2 : Int32)))])) t := by
          intro t kt
          show Steps p.tables e below (T186.setTop (mkF m 56 #[.val (.int p0), .val (.int p1), .val (.int p2), .val (.int v1), .val (.ref u_BuiltInCall_BuiltIn_SAME_TERM), .val (.int v43), .val (.int v45), .unset] [(.int (own_r3 v1 v43)), (.int (own_r2 v43 (2 : Int32) (2 : Int32)))])) _
          refine XS.icmpNo X186.here hx rfl (hb hby at_56) rfl (teq hc56_46).2 ?_
          show Steps p.tables e below (T186.setTop (mkF m 59 #[.val (.int p0), .val (.int p1), .val (.int p2), .val (.int v1), .val (.ref u_BuiltInCall_BuiltIn_SAME_TERM), .val (.int v43), .val (.int v45), .unset] [])) _
          refine XS.iconst X186.here hx rfl (hb hby at_59) ?_
          show Steps p.tables e below (T186.setTop (mkF m 60 #[.val (.int p0), .val (.int p1), .val (.int p2), .val (.int v1), .val (.ref u_BuiltInCall_BuiltIn_SAME_TERM), .val (.int v43), .val (.int v45), .unset] [(.int (1 : Int32))])) _
          refine XS.goto X186.here hx rfl (pc0 := 60) (pc' := 64) rfl (hb hby at_60) (by decide) (by decide) ?_
          exact kt
        refine own_arm hgo187 ?_
        exact own_armEnd X186 N186 e186 (by rw [hv47.trans (if_pos hc56_46)])
      · have hgo188 : ∀ t, Steps p.tables e below (T186.setTop (mkF m 64 #[.val (.int p0), .val (.int p1), .val (.int p2), .val (.int v1), .val (.ref u_BuiltInCall_BuiltIn_SAME_TERM), .val (.int v43), .val (.int v45), .unset] [(.int (0 : Int32))])) t → Steps p.tables e below (T186.setTop (mkF m 56 #[.val (.int p0), .val (.int p1), .val (.int p2), .val (.int v1), .val (.ref u_BuiltInCall_BuiltIn_SAME_TERM), .val (.int v43), .val (.int v45), .unset] [(.int (own_r3 v1 v43)), (.int (own_r2 v43 (2 : Int32) (2 : Int32)))])) t := by
          intro t kt
          show Steps p.tables e below (T186.setTop (mkF m 56 #[.val (.int p0), .val (.int p1), .val (.int p2), .val (.int v1), .val (.ref u_BuiltInCall_BuiltIn_SAME_TERM), .val (.int v43), .val (.int v45), .unset] [(.int (own_r3 v1 v43)), (.int (own_r2 v43 (2 : Int32) (2 : Int32)))])) _
          refine XS.icmpYes X186.here hx rfl (pc0 := 56) (pc' := 63) rfl (hb hby at_56) rfl (feq hc56_46).2 (by decide) (by decide) ?_
          show Steps p.tables e below (T186.setTop (mkF m 63 #[.val (.int p0), .val (.int p1), .val (.int p2), .val (.int v1), .val (.ref u_BuiltInCall_BuiltIn_SAME_TERM), .val (.int v43), .val (.int v45), .unset] [])) _
          refine XS.iconst X186.here hx rfl (hb hby at_63) ?_
          exact kt
        refine own_arm hgo188 ?_
        exact own_armEnd X186 N186 e186 (by rw [hv47.trans (if_neg hc56_46)]))
    obtain ⟨v50, hv50⟩ : ∃ z : Int32, z = (if v47 = (0 : Int32) then (0 : Int32) else (1 : Int32)) := ⟨_, rfl⟩
    obtain ⟨v51, hv51⟩ : ∃ z : Int32, z = (if v45 = (0 : Int32) then (0 : Int32) else v50) := ⟨_, rfl⟩
    obtain ⟨T195, lc195, X195, N195, e195, st195⟩ := own_mrg (n0 := n0) (h := h0) (g := (mkF m 68 #[.val (.int p0), .val (.int p1), .val (.int p2), .val (.int v1), .val (.ref u_BuiltInCall_BuiltIn_SAME_TERM), .val (.int v43), .val (.int v45), .val (.int v47)] [(.int v45)])) (g' := (mkF m 81 #[.val (.int p0), .val (.int p1), .val (.int p2), .val (.int v1), .val (.ref u_BuiltInCall_BuiltIn_SAME_TERM), .val (.int v43), .val (.int v45), .val (.int v47)] [(.int v51)])) X189 (by
      by_cases hc68_48 : v45 = (0 : Int32)
      · have hgo190 : ∀ t, Steps p.tables e below (T189.setTop (mkF m 81 #[.val (.int p0), .val (.int p1), .val (.int p2), .val (.int v1), .val (.ref u_BuiltInCall_BuiltIn_SAME_TERM), .val (.int v43), .val (.int v45), .val (.int v47)] [(.int (0 : Int32))])) t → Steps p.tables e below (T189.setTop (mkF m 68 #[.val (.int p0), .val (.int p1), .val (.int p2), .val (.int v1), .val (.ref u_BuiltInCall_BuiltIn_SAME_TERM), .val (.int v43), .val (.int v45), .val (.int v47)] [(.int v45)])) t := by
          intro t kt
          show Steps p.tables e below (T189.setTop (mkF m 68 #[.val (.int p0), .val (.int p1), .val (.int p2), .val (.int v1), .val (.ref u_BuiltInCall_BuiltIn_SAME_TERM), .val (.int v43), .val (.int v45), .val (.int v47)] [(.int v45)])) _
          refine XS.ifYes X189.here hx rfl (pc0 := 68) (pc' := 80) rfl (hb hby at_68) rfl ((if0 _ _).trans (teq hc68_48).1) (by decide) (by decide) ?_
          show Steps p.tables e below (T189.setTop (mkF m 80 #[.val (.int p0), .val (.int p1), .val (.int p2), .val (.int v1), .val (.ref u_BuiltInCall_BuiltIn_SAME_TERM), .val (.int v43), .val (.int v45), .val (.int v47)] [])) _
          refine XS.iconst X189.here hx rfl (hb hby at_80) ?_
          exact kt
        refine own_arm hgo190 ?_
        exact own_armEnd X189 N189 e189 (by rw [hv51.trans (if_pos hc68_48)])
      · obtain ⟨T193, lc193, X193, N193, e193, st193⟩ := own_mrg (n0 := n0) (h := h0) (g := (mkF m 73 #[.val (.int p0), .val (.int p1), .val (.int p2), .val (.int v1), .val (.ref u_BuiltInCall_BuiltIn_SAME_TERM), .val (.int v43), .val (.int v45), .val (.int v47)] [(.int v47)])) (g' := (mkF m 81 #[.val (.int p0), .val (.int p1), .val (.int p2), .val (.int v1), .val (.ref u_BuiltInCall_BuiltIn_SAME_TERM), .val (.int v43), .val (.int v45), .val (.int v47)] [(.int v50)])) X189 (by
          by_cases hc73_49 : v47 = (0 : Int32)
          · have hgo191 : ∀ t, Steps p.tables e below (T189.setTop (mkF m 81 #[.val (.int p0), .val (.int p1), .val (.int p2), .val (.int v1), .val (.ref u_BuiltInCall_BuiltIn_SAME_TERM), .val (.int v43), .val (.int v45), .val (.int v47)] [(.int (0 : Int32))])) t → Steps p.tables e below (T189.setTop (mkF m 73 #[.val (.int p0), .val (.int p1), .val (.int p2), .val (.int v1), .val (.ref u_BuiltInCall_BuiltIn_SAME_TERM), .val (.int v43), .val (.int v45), .val (.int v47)] [(.int v47)])) t := by
              intro t kt
              show Steps p.tables e below (T189.setTop (mkF m 73 #[.val (.int p0), .val (.int p1), .val (.int p2), .val (.int v1), .val (.ref u_BuiltInCall_BuiltIn_SAME_TERM), .val (.int v43), .val (.int v45), .val (.int v47)] [(.int v47)])) _
              refine XS.ifYes X189.here hx rfl (pc0 := 73) (pc' := 80) rfl (hb hby at_73) rfl ((if0 _ _).trans (teq hc73_49).1) (by decide) (by decide) ?_
              show Steps p.tables e below (T189.setTop (mkF m 80 #[.val (.int p0), .val (.int p1), .val (.int p2), .val (.int v1), .val (.ref u_BuiltInCall_BuiltIn_SAME_TERM), .val (.int v43), .val (.int v45), .val (.int v47)] [])) _
              refine XS.iconst X189.here hx rfl (hb hby at_80) ?_
              exact kt
            refine own_arm hgo191 ?_
            exact own_armEnd X189 N189 e189 (by rw [hv50.trans (if_pos hc73_49)])
          · have hgo192 : ∀ t, Steps p.tables e below (T189.setTop (mkF m 81 #[.val (.int p0), .val (.int p1), .val (.int p2), .val (.int v1), .val (.ref u_BuiltInCall_BuiltIn_SAME_TERM), .val (.int v43), .val (.int v45), .val (.int v47)] [(.int (1 : Int32))])) t → Steps p.tables e below (T189.setTop (mkF m 73 #[.val (.int p0), .val (.int p1), .val (.int p2), .val (.int v1), .val (.ref u_BuiltInCall_BuiltIn_SAME_TERM), .val (.int v43), .val (.int v45), .val (.int v47)] [(.int v47)])) t := by
              intro t kt
              show Steps p.tables e below (T189.setTop (mkF m 73 #[.val (.int p0), .val (.int p1), .val (.int p2), .val (.int v1), .val (.ref u_BuiltInCall_BuiltIn_SAME_TERM), .val (.int v43), .val (.int v45), .val (.int v47)] [(.int v47)])) _
              refine XS.ifNo X189.here hx rfl (hb hby at_73) rfl ((if0 _ _).trans (feq hc73_49).1) ?_
              show Steps p.tables e below (T189.setTop (mkF m 76 #[.val (.int p0), .val (.int p1), .val (.int p2), .val (.int v1), .val (.ref u_BuiltInCall_BuiltIn_SAME_TERM), .val (.int v43), .val (.int v45), .val (.int v47)] [])) _
              refine XS.iconst X189.here hx rfl (hb hby at_76) ?_
              show Steps p.tables e below (T189.setTop (mkF m 77 #[.val (.int p0), .val (.int p1), .val (.int p2), .val (.int v1), .val (.ref u_BuiltInCall_BuiltIn_SAME_TERM), .val (.int v43), .val (.int v45), .val (.int v47)] [(.int (1 : Int32))])) _
              refine XS.goto X189.here hx rfl (pc0 := 77) (pc' := 81) rfl (hb hby at_77) (by decide) (by decide) ?_
              exact kt
            refine own_arm hgo192 ?_
            exact own_armEnd X189 N189 e189 (by rw [hv50.trans (if_neg hc73_49)]))
        have hgo194 : ∀ t, Steps p.tables e below (T193.setTop (mkF m 81 #[.val (.int p0), .val (.int p1), .val (.int p2), .val (.int v1), .val (.ref u_BuiltInCall_BuiltIn_SAME_TERM), .val (.int v43), .val (.int v45), .val (.int v47)] [(.int v50)])) t → Steps p.tables e below (T189.setTop (mkF m 68 #[.val (.int p0), .val (.int p1), .val (.int p2), .val (.int v1), .val (.ref u_BuiltInCall_BuiltIn_SAME_TERM), .val (.int v43), .val (.int v45), .val (.int v47)] [(.int v45)])) t := by
          intro t kt
          show Steps p.tables e below (T189.setTop (mkF m 68 #[.val (.int p0), .val (.int p1), .val (.int p2), .val (.int v1), .val (.ref u_BuiltInCall_BuiltIn_SAME_TERM), .val (.int v43), .val (.int v45), .val (.int v47)] [(.int v45)])) _
          refine XS.ifNo X189.here hx rfl (hb hby at_68) rfl ((if0 _ _).trans (feq hc68_48).1) ?_
          show Steps p.tables e below (T189.setTop (mkF m 71 #[.val (.int p0), .val (.int p1), .val (.int p2), .val (.int v1), .val (.ref u_BuiltInCall_BuiltIn_SAME_TERM), .val (.int v43), .val (.int v45), .val (.int v47)] [])) _
          refine XS.iload X189.here hx rfl (hb hby at_71) rfl ?_
          show Steps p.tables e below (T189.setTop (mkF m 73 #[.val (.int p0), .val (.int p1), .val (.int p2), .val (.int v1), .val (.ref u_BuiltInCall_BuiltIn_SAME_TERM), .val (.int v43), .val (.int v45), .val (.int v47)] [(.int v47)])) _
          refine st193 _ ?_
          exact kt
        refine own_arm hgo194 ?_
        exact own_armEnd X193 N193 e193 (by rw [hv51.trans (if_neg hc68_48)]))
    have hgo196 : ∀ t, Steps p.tables e below (T195.setTop (mkF m 81 #[.val (.int p0), .val (.int p1), .val (.int p2), .val (.int v1), .val (.ref u_BuiltInCall_BuiltIn_SAME_TERM), .val (.int v43), .val (.int v45), .val (.int v47)] [(.int v51)])) t → Steps p.tables e below (s₁.setTop (mkF m 9 #[.val (.int p0), .val (.int p1), .val (.int p2), .val (.int v1), .unset, .unset, .unset, .unset] [(.int v1)])) t := by
      intro t kt
      show Steps p.tables e below (s₁.setTop (mkF m 9 #[.val (.int p0), .val (.int p1), .val (.int p2), .val (.int v1), .unset, .unset, .unset, .unset] [(.int v1)])) _
      refine st179 _ ?_
      show Steps p.tables e below (T179.setTop (mkF m 12 #[.val (.int p0), .val (.int p1), .val (.int p2), .val (.int v1), .unset, .unset, .unset, .unset] [(.ref u_BuiltInCall_BuiltIn_SAME_TERM)])) _
      refine XS.astore X179.here hx rfl (hb hby at_12) rfl rfl (l' := #[.val (.int p0), .val (.int p1), .val (.int p2), .val (.int v1), .val (.ref u_BuiltInCall_BuiltIn_SAME_TERM), .unset, .unset, .unset]) rfl ?_
      show Steps p.tables e below (T179.setTop (mkF m 14 #[.val (.int p0), .val (.int p1), .val (.int p2), .val (.int v1), .val (.ref u_BuiltInCall_BuiltIn_SAME_TERM), .unset, .unset, .unset] [])) _
      refine XS.iloadN X179.here hx rfl (hb hby at_14) rfl ?_
      show Steps p.tables e below (T179.setTop (mkF m 15 #[.val (.int p0), .val (.int p1), .val (.int p2), .val (.int v1), .val (.ref u_BuiltInCall_BuiltIn_SAME_TERM), .unset, .unset, .unset] [(.int p2)])) _
      refine XS.bipush X179.here hx rfl (hb hby at_15) ?_
      show Steps p.tables e below (T179.setTop (mkF m 17 #[.val (.int p0), .val (.int p1), .val (.int p2), .val (.int v1), .val (.ref u_BuiltInCall_BuiltIn_SAME_TERM), .unset, .unset, .unset] [(.int (7 : Int32)), (.int p2)])) _
      refine XS.iand X179.here hx rfl (hb hby at_17) rfl ?_
      show Steps p.tables e below (T179.setTop (mkF m 18 #[.val (.int p0), .val (.int p1), .val (.int p2), .val (.int v1), .val (.ref u_BuiltInCall_BuiltIn_SAME_TERM), .unset, .unset, .unset] [(.int (p2 &&& (7 : Int32)))])) _
      refine XS.iconst X179.here hx rfl (hb hby at_18) ?_
      show Steps p.tables e below (T179.setTop (mkF m 19 #[.val (.int p0), .val (.int p1), .val (.int p2), .val (.int v1), .val (.ref u_BuiltInCall_BuiltIn_SAME_TERM), .unset, .unset, .unset] [(.int (2 : Int32)), (.int (p2 &&& (7 : Int32)))])) _
      refine XS.isub X179.here hx rfl (hb hby at_19) rfl ?_
      show Steps p.tables e below (T179.setTop (mkF m 20 #[.val (.int p0), .val (.int p1), .val (.int p2), .val (.int v1), .val (.ref u_BuiltInCall_BuiltIn_SAME_TERM), .unset, .unset, .unset] [(.int ((p2 &&& (7 : Int32)) - (2 : Int32)))])) _
      rw [← hv43]
      show Steps p.tables e below (T179.setTop (mkF m 20 #[.val (.int p0), .val (.int p1), .val (.int p2), .val (.int v1), .val (.ref u_BuiltInCall_BuiltIn_SAME_TERM), .unset, .unset, .unset] [(.int v43)])) _
      refine XS.istore X179.here hx rfl (hb hby at_20) rfl (l' := #[.val (.int p0), .val (.int p1), .val (.int p2), .val (.int v1), .val (.ref u_BuiltInCall_BuiltIn_SAME_TERM), .val (.int v43), .unset, .unset]) rfl ?_
      show Steps p.tables e below (T179.setTop (mkF m 22 #[.val (.int p0), .val (.int p1), .val (.int p2), .val (.int v1), .val (.ref u_BuiltInCall_BuiltIn_SAME_TERM), .val (.int v43), .unset, .unset] [])) _
      refine XS.aload X179.here hx rfl (hb hby at_22) rfl rfl ?_
      show Steps p.tables e below (T179.setTop (mkF m 24 #[.val (.int p0), .val (.int p1), .val (.int p2), .val (.int v1), .val (.ref u_BuiltInCall_BuiltIn_SAME_TERM), .val (.int v43), .unset, .unset] [(.ref u_BuiltInCall_BuiltIn_SAME_TERM)])) _
      refine XS.iloadN X179.here hx rfl (hb hby at_24) rfl ?_
      show Steps p.tables e below (T179.setTop (mkF m 25 #[.val (.int p0), .val (.int p1), .val (.int p2), .val (.int v1), .val (.ref u_BuiltInCall_BuiltIn_SAME_TERM), .val (.int v43), .unset, .unset] [(.int p1), (.ref u_BuiltInCall_BuiltIn_SAME_TERM)])) _
      refine st180.trans ?_
      show Steps p.tables e below (T180.setTop (mkF m 28 #[.val (.int p0), .val (.int p1), .val (.int p2), .val (.int v1), .val (.ref u_BuiltInCall_BuiltIn_SAME_TERM), .val (.int v43), .unset, .unset] [(.int (own_r2 p1 (2 : Int32) (2 : Int32)))])) _
      refine XS.iloadN X180.here hx rfl (hb hby at_28) rfl ?_
      show Steps p.tables e below (T180.setTop (mkF m 29 #[.val (.int p0), .val (.int p1), .val (.int p2), .val (.int v1), .val (.ref u_BuiltInCall_BuiltIn_SAME_TERM), .val (.int v43), .unset, .unset] [(.int v1), (.int (own_r2 p1 (2 : Int32) (2 : Int32)))])) _
      refine XS.iloadN X180.here hx rfl (hb hby at_29) rfl ?_
      show Steps p.tables e below (T180.setTop (mkF m 30 #[.val (.int p0), .val (.int p1), .val (.int p2), .val (.int v1), .val (.ref u_BuiltInCall_BuiltIn_SAME_TERM), .val (.int v43), .unset, .unset] [(.int p1), (.int v1), (.int (own_r2 p1 (2 : Int32) (2 : Int32)))])) _
      refine st181 _ ?_
      show Steps p.tables e below (T181.setTop (mkF m 33 #[.val (.int p0), .val (.int p1), .val (.int p2), .val (.int v1), .val (.ref u_BuiltInCall_BuiltIn_SAME_TERM), .val (.int v43), .unset, .unset] [(.int (own_r3 v1 p1)), (.int (own_r2 p1 (2 : Int32) (2 : Int32)))])) _
      refine st184 _ ?_
      show Steps p.tables e below (T184.setTop (mkF m 41 #[.val (.int p0), .val (.int p1), .val (.int p2), .val (.int v1), .val (.ref u_BuiltInCall_BuiltIn_SAME_TERM), .val (.int v43), .unset, .unset] [(.int v45)])) _
      refine XS.istore X184.here hx rfl (hb hby at_41) rfl (l' := #[.val (.int p0), .val (.int p1), .val (.int p2), .val (.int v1), .val (.ref u_BuiltInCall_BuiltIn_SAME_TERM), .val (.int v43), .val (.int v45), .unset]) rfl ?_
      show Steps p.tables e below (T184.setTop (mkF m 43 #[.val (.int p0), .val (.int p1), .val (.int p2), .val (.int v1), .val (.ref u_BuiltInCall_BuiltIn_SAME_TERM), .val (.int v43), .val (.int v45), .unset] [])) _
      refine XS.aload X184.here hx rfl (hb hby at_43) rfl rfl ?_
      show Steps p.tables e below (T184.setTop (mkF m 45 #[.val (.int p0), .val (.int p1), .val (.int p2), .val (.int v1), .val (.ref u_BuiltInCall_BuiltIn_SAME_TERM), .val (.int v43), .val (.int v45), .unset] [(.ref u_BuiltInCall_BuiltIn_SAME_TERM)])) _
      refine XS.iload X184.here hx rfl (hb hby at_45) rfl ?_
      show Steps p.tables e below (T184.setTop (mkF m 47 #[.val (.int p0), .val (.int p1), .val (.int p2), .val (.int v1), .val (.ref u_BuiltInCall_BuiltIn_SAME_TERM), .val (.int v43), .val (.int v45), .unset] [(.int v43), (.ref u_BuiltInCall_BuiltIn_SAME_TERM)])) _
      refine st185.trans ?_
      show Steps p.tables e below (T185.setTop (mkF m 50 #[.val (.int p0), .val (.int p1), .val (.int p2), .val (.int v1), .val (.ref u_BuiltInCall_BuiltIn_SAME_TERM), .val (.int v43), .val (.int v45), .unset] [(.int (own_r2 v43 (2 : Int32) (2 : Int32)))])) _
      refine XS.iloadN X185.here hx rfl (hb hby at_50) rfl ?_
      show Steps p.tables e below (T185.setTop (mkF m 51 #[.val (.int p0), .val (.int p1), .val (.int p2), .val (.int v1), .val (.ref u_BuiltInCall_BuiltIn_SAME_TERM), .val (.int v43), .val (.int v45), .unset] [(.int v1), (.int (own_r2 v43 (2 : Int32) (2 : Int32)))])) _
      refine XS.iload X185.here hx rfl (hb hby at_51) rfl ?_
      show Steps p.tables e below (T185.setTop (mkF m 53 #[.val (.int p0), .val (.int p1), .val (.int p2), .val (.int v1), .val (.ref u_BuiltInCall_BuiltIn_SAME_TERM), .val (.int v43), .val (.int v45), .unset] [(.int v43), (.int v1), (.int (own_r2 v43 (2 : Int32) (2 : Int32)))])) _
      refine st186 _ ?_
      show Steps p.tables e below (T186.setTop (mkF m 56 #[.val (.int p0), .val (.int p1), .val (.int p2), .val (.int v1), .val (.ref u_BuiltInCall_BuiltIn_SAME_TERM), .val (.int v43), .val (.int v45), .unset] [(.int (own_r3 v1 v43)), (.int (own_r2 v43 (2 : Int32) (2 : Int32)))])) _
      refine st189 _ ?_
      show Steps p.tables e below (T189.setTop (mkF m 64 #[.val (.int p0), .val (.int p1), .val (.int p2), .val (.int v1), .val (.ref u_BuiltInCall_BuiltIn_SAME_TERM), .val (.int v43), .val (.int v45), .unset] [(.int v47)])) _
      refine XS.istore X189.here hx rfl (hb hby at_64) rfl (l' := #[.val (.int p0), .val (.int p1), .val (.int p2), .val (.int v1), .val (.ref u_BuiltInCall_BuiltIn_SAME_TERM), .val (.int v43), .val (.int v45), .val (.int v47)]) rfl ?_
      show Steps p.tables e below (T189.setTop (mkF m 66 #[.val (.int p0), .val (.int p1), .val (.int p2), .val (.int v1), .val (.ref u_BuiltInCall_BuiltIn_SAME_TERM), .val (.int v43), .val (.int v45), .val (.int v47)] [])) _
      refine XS.iload X189.here hx rfl (hb hby at_66) rfl ?_
      show Steps p.tables e below (T189.setTop (mkF m 68 #[.val (.int p0), .val (.int p1), .val (.int p2), .val (.int v1), .val (.ref u_BuiltInCall_BuiltIn_SAME_TERM), .val (.int v43), .val (.int v45), .val (.int v47)] [(.int v45)])) _
      refine st195 _ ?_
      exact kt
    refine own_go hgo196 ?_
    have hz197 : v51 = 1 := own_leaf4 (p0 := p0) (p1 := p1) (p2 := p2) (u_BuiltInCall_BuiltIn_STR := u_BuiltInCall_BuiltIn_STR) (u_BuiltInCall_BuiltIn_LANG := u_BuiltInCall_BuiltIn_LANG) (u_BuiltInCall_BuiltIn_SAME_TERM := u_BuiltInCall_BuiltIn_SAME_TERM) (u_BuiltInCall_BuiltIn_IS_IRI := u_BuiltInCall_BuiltIn_IS_IRI) (u_BuiltInCall_BuiltIn_IS_LITERAL := u_BuiltInCall_BuiltIn_IS_LITERAL) (u_BuiltInCall_BuiltIn_DATATYPE := u_BuiltInCall_BuiltIn_DATATYPE) (u_BuiltInCall_BuiltIn_IS_URI := u_BuiltInCall_BuiltIn_IS_URI) (u_BuiltInCall_BuiltIn_IS_BLANK := u_BuiltInCall_BuiltIn_IS_BLANK) (u_BuiltInCall_BuiltIn_REGEX := u_BuiltInCall_BuiltIn_REGEX) (u_BuiltInCall_BuiltIn_LANG_MATCHES := u_BuiltInCall_BuiltIn_LANG_MATCHES) hv1 hv43 hv45 hv47 hv50 hv51 hs9_2 hs9_12 hs9_22 hs9_32 hs9_42
    exact own_retZ X195 hx Bd.returns Bd.notSynchronized (hb hby at_81) (by decide) (by decide) (Or.inr hz197) ⟨by rw [hz197], N195⟩
  by_cases hs9_52 : v1 = (5 : Int32)
  · obtain ⟨_, _, ⟨T198, L198, k198, n198⟩, -, X198, ⟨Lc198, hQ198, l198, y198, z198⟩, st198⟩ := Jvm.LawKit.callS X0 hx (y := (⟨"com/example/muset/muset/sparql/BuiltInTakesPinLaw", "pick", "(I)Lcom/example/muset/muset/sparql/BuiltInCall$BuiltIn;"⟩ : MethodName)) hown (mvT hZ (hw _ (List.mem_of_getElem? (i := 1) rfl))) (mvT hZ (hw _ (List.mem_of_getElem? (i := 2) rfl))) (mvT hZ (hw _ (List.mem_of_getElem? (i := 3) rfl))) (mvT hZ (hw _ (List.mem_of_getElem? (i := 4) rfl))) (by decide) (backOf (W := 0) (rm1_5 l Z a0 hw [] v1 u_BuiltInCall_BuiltIn_IS_IRI h0 n0 Z0 (by first | assumption | decide : ¬ (v1 = (0 : Int32))) (by first | assumption | decide : ¬ (v1 = (1 : Int32))) (by first | assumption | decide : ¬ (v1 = (2 : Int32))) (by first | assumption | decide : ¬ (v1 = (3 : Int32))) (by first | assumption | decide : ¬ (v1 = (4 : Int32))) (by first | assumption | decide : v1 = (5 : Int32)) S_u_BuiltInCall_BuiltIn_IS_IRI) hZ (hw _ (List.mem_of_getElem? (i := 4) rfl)) (hw _ (List.mem_of_getElem? (i := 3) rfl)) (by decide) (by decide)) (g := (mkF m 9 #[.val (.int p0), .val (.int p1), .val (.int p2), .val (.int v1), .unset, .unset, .unset, .unset] [(.int v1)])) rfl (by rw [hml]; rfl) (argsL := [(.int v1)]) (rest := []) (lenOf pd2 rfl) rfl (by show 2 * 0 + _ ≤ _; exact Nat.le_of_eq rfl) (hb hby at_9) (fun _ _ => ⟨rfl, e0, (by decide : 0 + 0 ≤ _), (by decide : 0 + 0 ≤ _)⟩)
    dsimp only [Pt.U, Pt.locs, Pt.cells, Pt.slots] at X198 l198 y198 z198 st198 hQ198
    subst l198 y198 z198
    obtain ⟨rfl, N198q, e198⟩ := hQ198
    have N198 := Fr.app N0 N198q
    obtain ⟨v53, hv53⟩ : ∃ z : Int32, z = ((p2 &&& (7 : Int32)) - (2 : Int32)) := ⟨_, rfl⟩
    obtain ⟨cq199, kq199, q199a, q199b, q199c⟩ := isOf hZ e198 E_u_BuiltInCall_BuiltIn_IS_IRI
    obtain ⟨_, _, ⟨T199, L199, k199, n199⟩, -, X199, ⟨Lc199, hQ199, l199, y199, z199⟩, st199⟩ := X198.virtualBack hx (y := (⟨"com/example/muset/muset/sparql/BuiltInCall$BuiltIn", "takes", "(I)Z"⟩ : MethodName)) (z := (⟨"com/example/muset/muset/sparql/BuiltInCall$BuiltIn", "takes", "(I)Z"⟩ : MethodName)) hown (mvT hZ (hw _ (List.mem_of_getElem? (i := 8) rfl))) (mvT hZ (hw _ (List.mem_of_getElem? (i := 9) rfl))) (notFace_of_selects (args := #[]) (mvT hZ (hw _ (List.mem_of_getElem? (i := 11) rfl)))) (mvT hZ (hw _ (List.mem_of_getElem? (i := 11) rfl))) (mvT hZ (hw _ (List.mem_of_getElem? (i := 10) rfl))) (by decide) (backOf (W := 0) (rm2 l Z a0 hw [] u_BuiltInCall_BuiltIn_IS_IRI p1 (1 : Int32) (1 : Int32) h0 n0 Z0 F_minArguments_u_BuiltInCall_BuiltIn_IS_IRI F_maxArguments_u_BuiltInCall_BuiltIn_IS_IRI) hZ (hw _ (List.mem_of_getElem? (i := 12) rfl)) (hw _ (List.mem_of_getElem? (i := 6) rfl)) (by decide) (by decide)) q199a q199c (g := (mkF m 25 #[.val (.int p0), .val (.int p1), .val (.int p2), .val (.int v1), .val (.ref u_BuiltInCall_BuiltIn_IS_IRI), .val (.int v53), .unset, .unset] [(.int p1), (.ref u_BuiltInCall_BuiltIn_IS_IRI)])) rfl (by rw [hml]; rfl) (Steps.refl _) (argsL := [(.int p1)]) (rest := []) (lenOf pd3 rfl) rfl (by show 2 * 0 + _ ≤ _; exact Nat.le_of_eq rfl) (hb hby at_25) (fun _ _ => ⟨rfl, e198, (by decide : 0 + 0 ≤ _), (by decide : 0 + 0 ≤ _)⟩)
    dsimp only [Pt.U, Pt.locs, Pt.cells, Pt.slots] at X199 l199 y199 z199 st199 hQ199
    subst l199 y199 z199
    obtain ⟨rfl, N199q, e199⟩ := hQ199
    have N199 := Fr.app N198 N199q
    obtain ⟨_, _, ⟨T200, L200, k200, n200⟩, -, X200, ⟨Lc200, hQ200, l200, y200, z200⟩, st200⟩ := Jvm.LawKit.callS X199 hx (y := (⟨"com/example/muset/muset/sparql/BuiltInTakesPinLaw", "expected", "(II)Z"⟩ : MethodName)) hown (mvT hZ (hw _ (List.mem_of_getElem? (i := 17) rfl))) (mvT hZ (hw _ (List.mem_of_getElem? (i := 18) rfl))) (mvT hZ (hw _ (List.mem_of_getElem? (i := 3) rfl))) (mvT hZ (hw _ (List.mem_of_getElem? (i := 19) rfl))) (by decide) (backOf (W := 1) (rm3 l Z a0 hw [] v1 p1 h0 n0 Z0 ) hZ (hw _ (List.mem_of_getElem? (i := 19) rfl)) (hw _ (List.mem_of_getElem? (i := 3) rfl)) (by decide) (by decide)) (g := (mkF m 30 #[.val (.int p0), .val (.int p1), .val (.int p2), .val (.int v1), .val (.ref u_BuiltInCall_BuiltIn_IS_IRI), .val (.int v53), .unset, .unset] [(.int p1), (.int v1), (.int (own_r2 p1 (1 : Int32) (1 : Int32)))])) rfl (by rw [hml]; rfl) (argsL := [(.int v1), (.int p1)]) (rest := [(.int (own_r2 p1 (1 : Int32) (1 : Int32)))]) (lenOf pd4 rfl) rfl (by show 2 * 0 + _ ≤ _; exact Nat.le_of_eq rfl) (hb hby at_30) (fun _ _ => ⟨rfl, e199, (by decide : 0 + 0 ≤ _), (by decide : 0 + 0 ≤ _)⟩)
    dsimp only [Pt.U, Pt.locs, Pt.cells, Pt.slots] at X200 l200 y200 z200 st200 hQ200
    subst l200 y200 z200
    obtain ⟨rfl, N200q, e200⟩ := hQ200
    have N200 := Fr.app N199 N200q
    obtain ⟨v55, hv55⟩ : ∃ z : Int32, z = (if (own_r2 p1 (1 : Int32) (1 : Int32)) = (own_r3 v1 p1) then (1 : Int32) else (0 : Int32)) := ⟨_, rfl⟩
    obtain ⟨T203, lc203, X203, N203, e203, st203⟩ := own_mrg (n0 := n0) (h := h0) (g := (mkF m 33 #[.val (.int p0), .val (.int p1), .val (.int p2), .val (.int v1), .val (.ref u_BuiltInCall_BuiltIn_IS_IRI), .val (.int v53), .unset, .unset] [(.int (own_r3 v1 p1)), (.int (own_r2 p1 (1 : Int32) (1 : Int32)))])) (g' := (mkF m 41 #[.val (.int p0), .val (.int p1), .val (.int p2), .val (.int v1), .val (.ref u_BuiltInCall_BuiltIn_IS_IRI), .val (.int v53), .unset, .unset] [(.int v55)])) X200 (by
      by_cases hc33_54 : (own_r2 p1 (1 : Int32) (1 : Int32)) = (own_r3 v1 p1)
      · have hgo201 : ∀ t, Steps p.tables e below (T200.setTop (mkF m 41 #[.val (.int p0), .val (.int p1), .val (.int p2), .val (.int v1), .val (.ref u_BuiltInCall_BuiltIn_IS_IRI), .val (.int v53), .unset, .unset] [(.int (1 : Int32))])) t → Steps p.tables e below (T200.setTop (mkF m 33 #[.val (.int p0), .val (.int p1), .val (.int p2), .val (.int v1), .val (.ref u_BuiltInCall_BuiltIn_IS_IRI), .val (.int v53), .unset, .unset] [(.int (own_r3 v1 p1)), (.int (own_r2 p1 (1 : Int32) (1 : Int32)))])) t := by
          intro t kt
          show Steps p.tables e below (T200.setTop (mkF m 33 #[.val (.int p0), .val (.int p1), .val (.int p2), .val (.int v1), .val (.ref u_BuiltInCall_BuiltIn_IS_IRI), .val (.int v53), .unset, .unset] [(.int (own_r3 v1 p1)), (.int (own_r2 p1 (1 : Int32) (1 : Int32)))])) _
          refine XS.icmpNo X200.here hx rfl (hb hby at_33) rfl (teq hc33_54).2 ?_
          show Steps p.tables e below (T200.setTop (mkF m 36 #[.val (.int p0), .val (.int p1), .val (.int p2), .val (.int v1), .val (.ref u_BuiltInCall_BuiltIn_IS_IRI), .val (.int v53), .unset, .unset] [])) _
          refine XS.iconst X200.here hx rfl (hb hby at_36) ?_
          show Steps p.tables e below (T200.setTop (mkF m 37 #[.val (.int p0), .val (.int p1), .val (.int p2), .val (.int v1), .val (.ref u_BuiltInCall_BuiltIn_IS_IRI), .val (.int v53), .unset, .unset] [(.int (1 : Int32))])) _
          refine XS.goto X200.here hx rfl (pc0 := 37) (pc' := 41) rfl (hb hby at_37) (by decide) (by decide) ?_
          exact kt
        refine own_arm hgo201 ?_
        exact own_armEnd X200 N200 e200 (by rw [hv55.trans (if_pos hc33_54)])
      · have hgo202 : ∀ t, Steps p.tables e below (T200.setTop (mkF m 41 #[.val (.int p0), .val (.int p1), .val (.int p2), .val (.int v1), .val (.ref u_BuiltInCall_BuiltIn_IS_IRI), .val (.int v53), .unset, .unset] [(.int (0 : Int32))])) t → Steps p.tables e below (T200.setTop (mkF m 33 #[.val (.int p0), .val (.int p1), .val (.int p2), .val (.int v1), .val (.ref u_BuiltInCall_BuiltIn_IS_IRI), .val (.int v53), .unset, .unset] [(.int (own_r3 v1 p1)), (.int (own_r2 p1 (1 : Int32) (1 : Int32)))])) t := by
          intro t kt
          show Steps p.tables e below (T200.setTop (mkF m 33 #[.val (.int p0), .val (.int p1), .val (.int p2), .val (.int v1), .val (.ref u_BuiltInCall_BuiltIn_IS_IRI), .val (.int v53), .unset, .unset] [(.int (own_r3 v1 p1)), (.int (own_r2 p1 (1 : Int32) (1 : Int32)))])) _
          refine XS.icmpYes X200.here hx rfl (pc0 := 33) (pc' := 40) rfl (hb hby at_33) rfl (feq hc33_54).2 (by decide) (by decide) ?_
          show Steps p.tables e below (T200.setTop (mkF m 40 #[.val (.int p0), .val (.int p1), .val (.int p2), .val (.int v1), .val (.ref u_BuiltInCall_BuiltIn_IS_IRI), .val (.int v53), .unset, .unset] [])) _
          refine XS.iconst X200.here hx rfl (hb hby at_40) ?_
          exact kt
        refine own_arm hgo202 ?_
        exact own_armEnd X200 N200 e200 (by rw [hv55.trans (if_neg hc33_54)]))
    obtain ⟨cq204, kq204, q204a, q204b, q204c⟩ := isOf hZ e203 E_u_BuiltInCall_BuiltIn_IS_IRI
    obtain ⟨_, _, ⟨T204, L204, k204, n204⟩, -, X204, ⟨Lc204, hQ204, l204, y204, z204⟩, st204⟩ := X203.virtualBack hx (y := (⟨"com/example/muset/muset/sparql/BuiltInCall$BuiltIn", "takes", "(I)Z"⟩ : MethodName)) (z := (⟨"com/example/muset/muset/sparql/BuiltInCall$BuiltIn", "takes", "(I)Z"⟩ : MethodName)) hown (mvT hZ (hw _ (List.mem_of_getElem? (i := 8) rfl))) (mvT hZ (hw _ (List.mem_of_getElem? (i := 9) rfl))) (notFace_of_selects (args := #[]) (mvT hZ (hw _ (List.mem_of_getElem? (i := 11) rfl)))) (mvT hZ (hw _ (List.mem_of_getElem? (i := 11) rfl))) (mvT hZ (hw _ (List.mem_of_getElem? (i := 10) rfl))) (by decide) (backOf (W := 0) (rm2 l Z a0 hw [] u_BuiltInCall_BuiltIn_IS_IRI v53 (1 : Int32) (1 : Int32) h0 n0 Z0 F_minArguments_u_BuiltInCall_BuiltIn_IS_IRI F_maxArguments_u_BuiltInCall_BuiltIn_IS_IRI) hZ (hw _ (List.mem_of_getElem? (i := 12) rfl)) (hw _ (List.mem_of_getElem? (i := 6) rfl)) (by decide) (by decide)) q204a q204c (g := (mkF m 47 #[.val (.int p0), .val (.int p1), .val (.int p2), .val (.int v1), .val (.ref u_BuiltInCall_BuiltIn_IS_IRI), .val (.int v53), .val (.int v55), .unset] [(.int v53), (.ref u_BuiltInCall_BuiltIn_IS_IRI)])) rfl (by rw [hml]; rfl) (Steps.refl _) (argsL := [(.int v53)]) (rest := []) (lenOf pd3 rfl) rfl (by show 2 * 0 + _ ≤ _; exact Nat.le_of_eq rfl) (hb hby at_47) (fun _ _ => ⟨rfl, e203, (by decide : 0 + 0 ≤ _), (by decide : 0 + 0 ≤ _)⟩)
    dsimp only [Pt.U, Pt.locs, Pt.cells, Pt.slots] at X204 l204 y204 z204 st204 hQ204
    subst l204 y204 z204
    obtain ⟨rfl, N204q, e204⟩ := hQ204
    have N204 := Fr.app N203 N204q
    obtain ⟨_, _, ⟨T205, L205, k205, n205⟩, -, X205, ⟨Lc205, hQ205, l205, y205, z205⟩, st205⟩ := Jvm.LawKit.callS X204 hx (y := (⟨"com/example/muset/muset/sparql/BuiltInTakesPinLaw", "expected", "(II)Z"⟩ : MethodName)) hown (mvT hZ (hw _ (List.mem_of_getElem? (i := 17) rfl))) (mvT hZ (hw _ (List.mem_of_getElem? (i := 18) rfl))) (mvT hZ (hw _ (List.mem_of_getElem? (i := 3) rfl))) (mvT hZ (hw _ (List.mem_of_getElem? (i := 19) rfl))) (by decide) (backOf (W := 1) (rm3 l Z a0 hw [] v1 v53 h0 n0 Z0 ) hZ (hw _ (List.mem_of_getElem? (i := 19) rfl)) (hw _ (List.mem_of_getElem? (i := 3) rfl)) (by decide) (by decide)) (g := (mkF m 53 #[.val (.int p0), .val (.int p1), .val (.int p2), .val (.int v1), .val (.ref u_BuiltInCall_BuiltIn_IS_IRI), .val (.int v53), .val (.int v55), .unset] [(.int v53), (.int v1), (.int (own_r2 v53 (1 : Int32) (1 : Int32)))])) rfl (by rw [hml]; rfl) (argsL := [(.int v1), (.int v53)]) (rest := [(.int (own_r2 v53 (1 : Int32) (1 : Int32)))]) (lenOf pd4 rfl) rfl (by show 2 * 0 + _ ≤ _; exact Nat.le_of_eq rfl) (hb hby at_53) (fun _ _ => ⟨rfl, e204, (by decide : 0 + 0 ≤ _), (by decide : 0 + 0 ≤ _)⟩)
    dsimp only [Pt.U, Pt.locs, Pt.cells, Pt.slots] at X205 l205 y205 z205 st205 hQ205
    subst l205 y205 z205
    obtain ⟨rfl, N205q, e205⟩ := hQ205
    have N205 := Fr.app N204 N205q
    obtain ⟨v57, hv57⟩ : ∃ z : Int32, z = (if (own_r2 v53 (1 : Int32) (1 : Int32)) = (own_r3 v1 v53) then (1 : Int32) else (0 : Int32)) := ⟨_, rfl⟩
    obtain ⟨T208, lc208, X208, N208, e208, st208⟩ := own_mrg (n0 := n0) (h := h0) (g := (mkF m 56 #[.val (.int p0), .val (.int p1), .val (.int p2), .val (.int v1), .val (.ref u_BuiltInCall_BuiltIn_IS_IRI), .val (.int v53), .val (.int v55), .unset] [(.int (own_r3 v1 v53)), (.int (own_r2 v53 (1 : Int32) (1 : Int32)))])) (g' := (mkF m 64 #[.val (.int p0), .val (.int p1), .val (.int p2), .val (.int v1), .val (.ref u_BuiltInCall_BuiltIn_IS_IRI), .val (.int v53), .val (.int v55), .unset] [(.int v57)])) X205 (by
      by_cases hc56_56 : (own_r2 v53 (1 : Int32) (1 : Int32)) = (own_r3 v1 v53)
      · have hgo206 : ∀ t, Steps p.tables e below (T205.setTop (mkF m 64 #[.val (.int p0), .val (.int p1), .val (.int p2), .val (.int v1), .val (.ref u_BuiltInCall_BuiltIn_IS_IRI), .val (.int v53), .val (.int v55), .unset] [(.int (1 : Int32))])) t → Steps p.tables e below (T205.setTop (mkF m 56 #[.val (.int p0), .val (.int p1), .val (.int p2), .val (.int v1), .val (.ref u_BuiltInCall_BuiltIn_IS_IRI), .val (.int v53), .val (.int v55), .unset] [(.int (own_r3 v1 v53)), (.int (own_r2 v53 (1 : Int32) (1 : Int32)))])) t := by
          intro t kt
          show Steps p.tables e below (T205.setTop (mkF m 56 #[.val (.int p0), .val (.int p1), .val (.int p2), .val (.int v1), .val (.ref u_BuiltInCall_BuiltIn_IS_IRI), .val (.int v53), .val (.int v55), .unset] [(.int (own_r3 v1 v53)), (.int (own_r2 v53 (1 : Int32) (1 : Int32)))])) _
          refine XS.icmpNo X205.here hx rfl (hb hby at_56) rfl (teq hc56_56).2 ?_
          show Steps p.tables e below (T205.setTop (mkF m 59 #[.val (.int p0), .val (.int p1), .val (.int p2), .val (.int v1), .val (.ref u_BuiltInCall_BuiltIn_IS_IRI), .val (.int v53), .val (.int v55), .unset] [])) _
          refine XS.iconst X205.here hx rfl (hb hby at_59) ?_
          show Steps p.tables e below (T205.setTop (mkF m 60 #[.val (.int p0), .val (.int p1), .val (.int p2), .val (.int v1), .val (.ref u_BuiltInCall_BuiltIn_IS_IRI), .val (.int v53), .val (.int v55), .unset] [(.int (1 : Int32))])) _
          refine XS.goto X205.here hx rfl (pc0 := 60) (pc' := 64) rfl (hb hby at_60) (by decide) (by decide) ?_
          exact kt
        refine own_arm hgo206 ?_
        exact own_armEnd X205 N205 e205 (by rw [hv57.trans (if_pos hc56_56)])
      · have hgo207 : ∀ t, Steps p.tables e below (T205.setTop (mkF m 64 #[.val (.int p0), .val (.int p1), .val (.int p2), .val (.int v1), .val (.ref u_BuiltInCall_BuiltIn_IS_IRI), .val (.int v53), .val (.int v55), .unset] [(.int (0 : Int32))])) t → Steps p.tables e below (T205.setTop (mkF m 56 #[.val (.int p0), .val (.int p1), .val (.int p2), .val (.int v1), .val (.ref u_BuiltInCall_BuiltIn_IS_IRI), .val (.int v53), .val (.int v55), .unset] [(.int (own_r3 v1 v53)), (.int (own_r2 v53 (1 : Int32) (1 : Int32)))])) t := by
          intro t kt
          show Steps p.tables e below (T205.setTop (mkF m 56 #[.val (.int p0), .val (.int p1), .val (.int p2), .val (.int v1), .val (.ref u_BuiltInCall_BuiltIn_IS_IRI), .val (.int v53), .val (.int v55), .unset] [(.int (own_r3 v1 v53)), (.int (own_r2 v53 (1 : Int32) (1 : Int32)))])) _
          refine XS.icmpYes X205.here hx rfl (pc0 := 56) (pc' := 63) rfl (hb hby at_56) rfl (feq hc56_56).2 (by decide) (by decide) ?_
          show Steps p.tables e below (T205.setTop (mkF m 63 #[.val (.int p0), .val (.int p1), .val (.int p2), .val (.int v1), .val (.ref u_BuiltInCall_BuiltIn_IS_IRI), .val (.int v53), .val (.int v55), .unset] [])) _
          refine XS.iconst X205.here hx rfl (hb hby at_63) ?_
          exact kt
        refine own_arm hgo207 ?_
        exact own_armEnd X205 N205 e205 (by rw [hv57.trans (if_neg hc56_56)]))
    obtain ⟨v60, hv60⟩ : ∃ z : Int32, z = (if v57 = (0 : Int32) then (0 : Int32) else (1 : Int32)) := ⟨_, rfl⟩
    obtain ⟨v61, hv61⟩ : ∃ z : Int32, z = (if v55 = (0 : Int32) then (0 : Int32) else v60) := ⟨_, rfl⟩
    obtain ⟨T214, lc214, X214, N214, e214, st214⟩ := own_mrg (n0 := n0) (h := h0) (g := (mkF m 68 #[.val (.int p0), .val (.int p1), .val (.int p2), .val (.int v1), .val (.ref u_BuiltInCall_BuiltIn_IS_IRI), .val (.int v53), .val (.int v55), .val (.int v57)] [(.int v55)])) (g' := (mkF m 81 #[.val (.int p0), .val (.int p1), .val (.int p2), .val (.int v1), .val (.ref u_BuiltInCall_BuiltIn_IS_IRI), .val (.int v53), .val (.int v55), .val (.int v57)] [(.int v61)])) X208 (by
      by_cases hc68_58 : v55 = (0 : Int32)
      · have hgo209 : ∀ t, Steps p.tables e below (T208.setTop (mkF m 81 #[.val (.int p0), .val (.int p1), .val (.int p2), .val (.int v1), .val (.ref u_BuiltInCall_BuiltIn_IS_IRI), .val (.int v53), .val (.int v55), .val (.int v57)] [(.int (0 : Int32))])) t → Steps p.tables e below (T208.setTop (mkF m 68 #[.val (.int p0), .val (.int p1), .val (.int p2), .val (.int v1), .val (.ref u_BuiltInCall_BuiltIn_IS_IRI), .val (.int v53), .val (.int v55), .val (.int v57)] [(.int v55)])) t := by
          intro t kt
          show Steps p.tables e below (T208.setTop (mkF m 68 #[.val (.int p0), .val (.int p1), .val (.int p2), .val (.int v1), .val (.ref u_BuiltInCall_BuiltIn_IS_IRI), .val (.int v53), .val (.int v55), .val (.int v57)] [(.int v55)])) _
          refine XS.ifYes X208.here hx rfl (pc0 := 68) (pc' := 80) rfl (hb hby at_68) rfl ((if0 _ _).trans (teq hc68_58).1) (by decide) (by decide) ?_
          show Steps p.tables e below (T208.setTop (mkF m 80 #[.val (.int p0), .val (.int p1), .val (.int p2), .val (.int v1), .val (.ref u_BuiltInCall_BuiltIn_IS_IRI), .val (.int v53), .val (.int v55), .val (.int v57)] [])) _
          refine XS.iconst X208.here hx rfl (hb hby at_80) ?_
          exact kt
        refine own_arm hgo209 ?_
        exact own_armEnd X208 N208 e208 (by rw [hv61.trans (if_pos hc68_58)])
      · obtain ⟨T212, lc212, X212, N212, e212, st212⟩ := own_mrg (n0 := n0) (h := h0) (g := (mkF m 73 #[.val (.int p0), .val (.int p1), .val (.int p2), .val (.int v1), .val (.ref u_BuiltInCall_BuiltIn_IS_IRI), .val (.int v53), .val (.int v55), .val (.int v57)] [(.int v57)])) (g' := (mkF m 81 #[.val (.int p0), .val (.int p1), .val (.int p2), .val (.int v1), .val (.ref u_BuiltInCall_BuiltIn_IS_IRI), .val (.int v53), .val (.int v55), .val (.int v57)] [(.int v60)])) X208 (by
          by_cases hc73_59 : v57 = (0 : Int32)
          · have hgo210 : ∀ t, Steps p.tables e below (T208.setTop (mkF m 81 #[.val (.int p0), .val (.int p1), .val (.int p2), .val (.int v1), .val (.ref u_BuiltInCall_BuiltIn_IS_IRI), .val (.int v53), .val (.int v55), .val (.int v57)] [(.int (0 : Int32))])) t → Steps p.tables e below (T208.setTop (mkF m 73 #[.val (.int p0), .val (.int p1), .val (.int p2), .val (.int v1), .val (.ref u_BuiltInCall_BuiltIn_IS_IRI), .val (.int v53), .val (.int v55), .val (.int v57)] [(.int v57)])) t := by
              intro t kt
              show Steps p.tables e below (T208.setTop (mkF m 73 #[.val (.int p0), .val (.int p1), .val (.int p2), .val (.int v1), .val (.ref u_BuiltInCall_BuiltIn_IS_IRI), .val (.int v53), .val (.int v55), .val (.int v57)] [(.int v57)])) _
              refine XS.ifYes X208.here hx rfl (pc0 := 73) (pc' := 80) rfl (hb hby at_73) rfl ((if0 _ _).trans (teq hc73_59).1) (by decide) (by decide) ?_
              show Steps p.tables e below (T208.setTop (mkF m 80 #[.val (.int p0), .val (.int p1), .val (.int p2), .val (.int v1), .val (.ref u_BuiltInCall_BuiltIn_IS_IRI), .val (.int v53), .val (.int v55), .val (.int v57)] [])) _
              refine XS.iconst X208.here hx rfl (hb hby at_80) ?_
              exact kt
            refine own_arm hgo210 ?_
            exact own_armEnd X208 N208 e208 (by rw [hv60.trans (if_pos hc73_59)])
          · have hgo211 : ∀ t, Steps p.tables e below (T208.setTop (mkF m 81 #[.val (.int p0), .val (.int p1), .val (.int p2), .val (.int v1), .val (.ref u_BuiltInCall_BuiltIn_IS_IRI), .val (.int v53), .val (.int v55), .val (.int v57)] [(.int (1 : Int32))])) t → Steps p.tables e below (T208.setTop (mkF m 73 #[.val (.int p0), .val (.int p1), .val (.int p2), .val (.int v1), .val (.ref u_BuiltInCall_BuiltIn_IS_IRI), .val (.int v53), .val (.int v55), .val (.int v57)] [(.int v57)])) t := by
              intro t kt
              show Steps p.tables e below (T208.setTop (mkF m 73 #[.val (.int p0), .val (.int p1), .val (.int p2), .val (.int v1), .val (.ref u_BuiltInCall_BuiltIn_IS_IRI), .val (.int v53), .val (.int v55), .val (.int v57)] [(.int v57)])) _
              refine XS.ifNo X208.here hx rfl (hb hby at_73) rfl ((if0 _ _).trans (feq hc73_59).1) ?_
              show Steps p.tables e below (T208.setTop (mkF m 76 #[.val (.int p0), .val (.int p1), .val (.int p2), .val (.int v1), .val (.ref u_BuiltInCall_BuiltIn_IS_IRI), .val (.int v53), .val (.int v55), .val (.int v57)] [])) _
              refine XS.iconst X208.here hx rfl (hb hby at_76) ?_
              show Steps p.tables e below (T208.setTop (mkF m 77 #[.val (.int p0), .val (.int p1), .val (.int p2), .val (.int v1), .val (.ref u_BuiltInCall_BuiltIn_IS_IRI), .val (.int v53), .val (.int v55), .val (.int v57)] [(.int (1 : Int32))])) _
              refine XS.goto X208.here hx rfl (pc0 := 77) (pc' := 81) rfl (hb hby at_77) (by decide) (by decide) ?_
              exact kt
            refine own_arm hgo211 ?_
            exact own_armEnd X208 N208 e208 (by rw [hv60.trans (if_neg hc73_59)]))
        have hgo213 : ∀ t, Steps p.tables e below (T212.setTop (mkF m 81 #[.val (.int p0), .val (.int p1), .val (.int p2), .val (.int v1), .val (.ref u_BuiltInCall_BuiltIn_IS_IRI), .val (.int v53), .val (.int v55), .val (.int v57)] [(.int v60)])) t → Steps p.tables e below (T208.setTop (mkF m 68 #[.val (.int p0), .val (.int p1), .val (.int p2), .val (.int v1), .val (.ref u_BuiltInCall_BuiltIn_IS_IRI), .val (.int v53), .val (.int v55), .val (.int v57)] [(.int v55)])) t := by
          intro t kt
          show Steps p.tables e below (T208.setTop (mkF m 68 #[.val (.int p0), .val (.int p1), .val (.int p2), .val (.int v1), .val (.ref u_BuiltInCall_BuiltIn_IS_IRI), .val (.int v53), .val (.int v55), .val (.int v57)] [(.int v55)])) _
          refine XS.ifNo X208.here hx rfl (hb hby at_68) rfl ((if0 _ _).trans (feq hc68_58).1) ?_
          show Steps p.tables e below (T208.setTop (mkF m 71 #[.val (.int p0), .val (.int p1), .val (.int p2), .val (.int v1), .val (.ref u_BuiltInCall_BuiltIn_IS_IRI), .val (.int v53), .val (.int v55), .val (.int v57)] [])) _
          refine XS.iload X208.here hx rfl (hb hby at_71) rfl ?_
          show Steps p.tables e below (T208.setTop (mkF m 73 #[.val (.int p0), .val (.int p1), .val (.int p2), .val (.int v1), .val (.ref u_BuiltInCall_BuiltIn_IS_IRI), .val (.int v53), .val (.int v55), .val (.int v57)] [(.int v57)])) _
          refine st212 _ ?_
          exact kt
        refine own_arm hgo213 ?_
        exact own_armEnd X212 N212 e212 (by rw [hv61.trans (if_neg hc68_58)]))
    have hgo215 : ∀ t, Steps p.tables e below (T214.setTop (mkF m 81 #[.val (.int p0), .val (.int p1), .val (.int p2), .val (.int v1), .val (.ref u_BuiltInCall_BuiltIn_IS_IRI), .val (.int v53), .val (.int v55), .val (.int v57)] [(.int v61)])) t → Steps p.tables e below (s₁.setTop (mkF m 9 #[.val (.int p0), .val (.int p1), .val (.int p2), .val (.int v1), .unset, .unset, .unset, .unset] [(.int v1)])) t := by
      intro t kt
      show Steps p.tables e below (s₁.setTop (mkF m 9 #[.val (.int p0), .val (.int p1), .val (.int p2), .val (.int v1), .unset, .unset, .unset, .unset] [(.int v1)])) _
      refine st198 _ ?_
      show Steps p.tables e below (T198.setTop (mkF m 12 #[.val (.int p0), .val (.int p1), .val (.int p2), .val (.int v1), .unset, .unset, .unset, .unset] [(.ref u_BuiltInCall_BuiltIn_IS_IRI)])) _
      refine XS.astore X198.here hx rfl (hb hby at_12) rfl rfl (l' := #[.val (.int p0), .val (.int p1), .val (.int p2), .val (.int v1), .val (.ref u_BuiltInCall_BuiltIn_IS_IRI), .unset, .unset, .unset]) rfl ?_
      show Steps p.tables e below (T198.setTop (mkF m 14 #[.val (.int p0), .val (.int p1), .val (.int p2), .val (.int v1), .val (.ref u_BuiltInCall_BuiltIn_IS_IRI), .unset, .unset, .unset] [])) _
      refine XS.iloadN X198.here hx rfl (hb hby at_14) rfl ?_
      show Steps p.tables e below (T198.setTop (mkF m 15 #[.val (.int p0), .val (.int p1), .val (.int p2), .val (.int v1), .val (.ref u_BuiltInCall_BuiltIn_IS_IRI), .unset, .unset, .unset] [(.int p2)])) _
      refine XS.bipush X198.here hx rfl (hb hby at_15) ?_
      show Steps p.tables e below (T198.setTop (mkF m 17 #[.val (.int p0), .val (.int p1), .val (.int p2), .val (.int v1), .val (.ref u_BuiltInCall_BuiltIn_IS_IRI), .unset, .unset, .unset] [(.int (7 : Int32)), (.int p2)])) _
      refine XS.iand X198.here hx rfl (hb hby at_17) rfl ?_
      show Steps p.tables e below (T198.setTop (mkF m 18 #[.val (.int p0), .val (.int p1), .val (.int p2), .val (.int v1), .val (.ref u_BuiltInCall_BuiltIn_IS_IRI), .unset, .unset, .unset] [(.int (p2 &&& (7 : Int32)))])) _
      refine XS.iconst X198.here hx rfl (hb hby at_18) ?_
      show Steps p.tables e below (T198.setTop (mkF m 19 #[.val (.int p0), .val (.int p1), .val (.int p2), .val (.int v1), .val (.ref u_BuiltInCall_BuiltIn_IS_IRI), .unset, .unset, .unset] [(.int (2 : Int32)), (.int (p2 &&& (7 : Int32)))])) _
      refine XS.isub X198.here hx rfl (hb hby at_19) rfl ?_
      show Steps p.tables e below (T198.setTop (mkF m 20 #[.val (.int p0), .val (.int p1), .val (.int p2), .val (.int v1), .val (.ref u_BuiltInCall_BuiltIn_IS_IRI), .unset, .unset, .unset] [(.int ((p2 &&& (7 : Int32)) - (2 : Int32)))])) _
      rw [← hv53]
      show Steps p.tables e below (T198.setTop (mkF m 20 #[.val (.int p0), .val (.int p1), .val (.int p2), .val (.int v1), .val (.ref u_BuiltInCall_BuiltIn_IS_IRI), .unset, .unset, .unset] [(.int v53)])) _
      refine XS.istore X198.here hx rfl (hb hby at_20) rfl (l' := #[.val (.int p0), .val (.int p1), .val (.int p2), .val (.int v1), .val (.ref u_BuiltInCall_BuiltIn_IS_IRI), .val (.int v53), .unset, .unset]) rfl ?_
      show Steps p.tables e below (T198.setTop (mkF m 22 #[.val (.int p0), .val (.int p1), .val (.int p2), .val (.int v1), .val (.ref u_BuiltInCall_BuiltIn_IS_IRI), .val (.int v53), .unset, .unset] [])) _
      refine XS.aload X198.here hx rfl (hb hby at_22) rfl rfl ?_
      show Steps p.tables e below (T198.setTop (mkF m 24 #[.val (.int p0), .val (.int p1), .val (.int p2), .val (.int v1), .val (.ref u_BuiltInCall_BuiltIn_IS_IRI), .val (.int v53), .unset, .unset] [(.ref u_BuiltInCall_BuiltIn_IS_IRI)])) _
      refine XS.iloadN X198.here hx rfl (hb hby at_24) rfl ?_
      show Steps p.tables e below (T198.setTop (mkF m 25 #[.val (.int p0), .val (.int p1), .val (.int p2), .val (.int v1), .val (.ref u_BuiltInCall_BuiltIn_IS_IRI), .val (.int v53), .unset, .unset] [(.int p1), (.ref u_BuiltInCall_BuiltIn_IS_IRI)])) _
      refine st199.trans ?_
      show Steps p.tables e below (T199.setTop (mkF m 28 #[.val (.int p0), .val (.int p1), .val (.int p2), .val (.int v1), .val (.ref u_BuiltInCall_BuiltIn_IS_IRI), .val (.int v53), .unset, .unset] [(.int (own_r2 p1 (1 : Int32) (1 : Int32)))])) _
      refine XS.iloadN X199.here hx rfl (hb hby at_28) rfl ?_
      show Steps p.tables e below (T199.setTop (mkF m 29 #[.val (.int p0), .val (.int p1), .val (.int p2), .val (.int v1), .val (.ref u_BuiltInCall_BuiltIn_IS_IRI), .val (.int v53), .unset, .unset] [(.int v1), (.int (own_r2 p1 (1 : Int32) (1 : Int32)))])) _
      refine XS.iloadN X199.here hx rfl (hb hby at_29) rfl ?_
      show Steps p.tables e below (T199.setTop (mkF m 30 #[.val (.int p0), .val (.int p1), .val (.int p2), .val (.int v1), .val (.ref u_BuiltInCall_BuiltIn_IS_IRI), .val (.int v53), .unset, .unset] [(.int p1), (.int v1), (.int (own_r2 p1 (1 : Int32) (1 : Int32)))])) _
      refine st200 _ ?_
      show Steps p.tables e below (T200.setTop (mkF m 33 #[.val (.int p0), .val (.int p1), .val (.int p2), .val (.int v1), .val (.ref u_BuiltInCall_BuiltIn_IS_IRI), .val (.int v53), .unset, .unset] [(.int (own_r3 v1 p1)), (.int (own_r2 p1 (1 : Int32) (1 : Int32)))])) _
      refine st203 _ ?_
      show Steps p.tables e below (T203.setTop (mkF m 41 #[.val (.int p0), .val (.int p1), .val (.int p2), .val (.int v1), .val (.ref u_BuiltInCall_BuiltIn_IS_IRI), .val (.int v53), .unset, .unset] [(.int v55)])) _
      refine XS.istore X203.here hx rfl (hb hby at_41) rfl (l' := #[.val (.int p0), .val (.int p1), .val (.int p2), .val (.int v1), .val (.ref u_BuiltInCall_BuiltIn_IS_IRI), .val (.int v53), .val (.int v55), .unset]) rfl ?_
      show Steps p.tables e below (T203.setTop (mkF m 43 #[.val (.int p0), .val (.int p1), .val (.int p2), .val (.int v1), .val (.ref u_BuiltInCall_BuiltIn_IS_IRI), .val (.int v53), .val (.int v55), .unset] [])) _
      refine XS.aload X203.here hx rfl (hb hby at_43) rfl rfl ?_
      show Steps p.tables e below (T203.setTop (mkF m 45 #[.val (.int p0), .val (.int p1), .val (.int p2), .val (.int v1), .val (.ref u_BuiltInCall_BuiltIn_IS_IRI), .val (.int v53), .val (.int v55), .unset] [(.ref u_BuiltInCall_BuiltIn_IS_IRI)])) _
      refine XS.iload X203.here hx rfl (hb hby at_45) rfl ?_
      show Steps p.tables e below (T203.setTop (mkF m 47 #[.val (.int p0), .val (.int p1), .val (.int p2), .val (.int v1), .val (.ref u_BuiltInCall_BuiltIn_IS_IRI), .val (.int v53), .val (.int v55), .unset] [(.int v53), (.ref u_BuiltInCall_BuiltIn_IS_IRI)])) _
      refine st204.trans ?_
      show Steps p.tables e below (T204.setTop (mkF m 50 #[.val (.int p0), .val (.int p1), .val (.int p2), .val (.int v1), .val (.ref u_BuiltInCall_BuiltIn_IS_IRI), .val (.int v53), .val (.int v55), .unset] [(.int (own_r2 v53 (1 : Int32) (1 : Int32)))])) _
      refine XS.iloadN X204.here hx rfl (hb hby at_50) rfl ?_
      show Steps p.tables e below (T204.setTop (mkF m 51 #[.val (.int p0), .val (.int p1), .val (.int p2), .val (.int v1), .val (.ref u_BuiltInCall_BuiltIn_IS_IRI), .val (.int v53), .val (.int v55), .unset] [(.int v1), (.int (own_r2 v53 (1 : Int32) (1 : Int32)))])) _
      refine XS.iload X204.here hx rfl (hb hby at_51) rfl ?_
      show Steps p.tables e below (T204.setTop (mkF m 53 #[.val (.int p0), .val (.int p1), .val (.int p2), .val (.int v1), .val (.ref u_BuiltInCall_BuiltIn_IS_IRI), .val (.int v53), .val (.int v55), .unset] [(.int v53), (.int v1), (.int (own_r2 v53 (1 : Int32) (1 : Int32)))])) _
      refine st205 _ ?_
      show Steps p.tables e below (T205.setTop (mkF m 56 #[.val (.int p0), .val (.int p1), .val (.int p2), .val (.int v1), .val (.ref u_BuiltInCall_BuiltIn_IS_IRI), .val (.int v53), .val (.int v55), .unset] [(.int (own_r3 v1 v53)), (.int (own_r2 v53 (1 : Int32) (1 : Int32)))])) _
      refine st208 _ ?_
      show Steps p.tables e below (T208.setTop (mkF m 64 #[.val (.int p0), .val (.int p1), .val (.int p2), .val (.int v1), .val (.ref u_BuiltInCall_BuiltIn_IS_IRI), .val (.int v53), .val (.int v55), .unset] [(.int v57)])) _
      refine XS.istore X208.here hx rfl (hb hby at_64) rfl (l' := #[.val (.int p0), .val (.int p1), .val (.int p2), .val (.int v1), .val (.ref u_BuiltInCall_BuiltIn_IS_IRI), .val (.int v53), .val (.int v55), .val (.int v57)]) rfl ?_
      show Steps p.tables e below (T208.setTop (mkF m 66 #[.val (.int p0), .val (.int p1), .val (.int p2), .val (.int v1), .val (.ref u_BuiltInCall_BuiltIn_IS_IRI), .val (.int v53), .val (.int v55), .val (.int v57)] [])) _
      refine XS.iload X208.here hx rfl (hb hby at_66) rfl ?_
      show Steps p.tables e below (T208.setTop (mkF m 68 #[.val (.int p0), .val (.int p1), .val (.int p2), .val (.int v1), .val (.ref u_BuiltInCall_BuiltIn_IS_IRI), .val (.int v53), .val (.int v55), .val (.int v57)] [(.int v55)])) _
      refine st214 _ ?_
      exact kt
    refine own_go hgo215 ?_
    have hz216 : v61 = 1 := own_leaf5 (p0 := p0) (p1 := p1) (p2 := p2) (u_BuiltInCall_BuiltIn_STR := u_BuiltInCall_BuiltIn_STR) (u_BuiltInCall_BuiltIn_LANG := u_BuiltInCall_BuiltIn_LANG) (u_BuiltInCall_BuiltIn_SAME_TERM := u_BuiltInCall_BuiltIn_SAME_TERM) (u_BuiltInCall_BuiltIn_IS_IRI := u_BuiltInCall_BuiltIn_IS_IRI) (u_BuiltInCall_BuiltIn_IS_LITERAL := u_BuiltInCall_BuiltIn_IS_LITERAL) (u_BuiltInCall_BuiltIn_DATATYPE := u_BuiltInCall_BuiltIn_DATATYPE) (u_BuiltInCall_BuiltIn_IS_URI := u_BuiltInCall_BuiltIn_IS_URI) (u_BuiltInCall_BuiltIn_IS_BLANK := u_BuiltInCall_BuiltIn_IS_BLANK) (u_BuiltInCall_BuiltIn_REGEX := u_BuiltInCall_BuiltIn_REGEX) (u_BuiltInCall_BuiltIn_LANG_MATCHES := u_BuiltInCall_BuiltIn_LANG_MATCHES) hv1 hv53 hv55 hv57 hv60 hv61 hs9_2 hs9_12 hs9_22 hs9_32 hs9_42 hs9_52
    exact own_retZ X214 hx Bd.returns Bd.notSynchronized (hb hby at_81) (by decide) (by decide) (Or.inr hz216) ⟨by rw [hz216], N214⟩
  by_cases hs9_62 : v1 = (6 : Int32)
  · obtain ⟨_, _, ⟨T217, L217, k217, n217⟩, -, X217, ⟨Lc217, hQ217, l217, y217, z217⟩, st217⟩ := Jvm.LawKit.callS X0 hx (y := (⟨"com/example/muset/muset/sparql/BuiltInTakesPinLaw", "pick", "(I)Lcom/example/muset/muset/sparql/BuiltInCall$BuiltIn;"⟩ : MethodName)) hown (mvT hZ (hw _ (List.mem_of_getElem? (i := 1) rfl))) (mvT hZ (hw _ (List.mem_of_getElem? (i := 2) rfl))) (mvT hZ (hw _ (List.mem_of_getElem? (i := 3) rfl))) (mvT hZ (hw _ (List.mem_of_getElem? (i := 4) rfl))) (by decide) (backOf (W := 0) (rm1_6 l Z a0 hw [] v1 u_BuiltInCall_BuiltIn_IS_URI h0 n0 Z0 (by first | assumption | decide : ¬ (v1 = (0 : Int32))) (by first | assumption | decide : ¬ (v1 = (1 : Int32))) (by first | assumption | decide : ¬ (v1 = (2 : Int32))) (by first | assumption | decide : ¬ (v1 = (3 : Int32))) (by first | assumption | decide : ¬ (v1 = (4 : Int32))) (by first | assumption | decide : ¬ (v1 = (5 : Int32))) (by first | assumption | decide : v1 = (6 : Int32)) S_u_BuiltInCall_BuiltIn_IS_URI) hZ (hw _ (List.mem_of_getElem? (i := 4) rfl)) (hw _ (List.mem_of_getElem? (i := 3) rfl)) (by decide) (by decide)) (g := (mkF m 9 #[.val (.int p0), .val (.int p1), .val (.int p2), .val (.int v1), .unset, .unset, .unset, .unset] [(.int v1)])) rfl (by rw [hml]; rfl) (argsL := [(.int v1)]) (rest := []) (lenOf pd2 rfl) rfl (by show 2 * 0 + _ ≤ _; exact Nat.le_of_eq rfl) (hb hby at_9) (fun _ _ => ⟨rfl, e0, (by decide : 0 + 0 ≤ _), (by decide : 0 + 0 ≤ _)⟩)
    dsimp only [Pt.U, Pt.locs, Pt.cells, Pt.slots] at X217 l217 y217 z217 st217 hQ217
    subst l217 y217 z217
    obtain ⟨rfl, N217q, e217⟩ := hQ217
    have N217 := Fr.app N0 N217q
    obtain ⟨v63, hv63⟩ : ∃ z : Int32, z = ((p2 &&& (7 : Int32)) - (2 : Int32)) := ⟨_, rfl⟩
    obtain ⟨cq218, kq218, q218a, q218b, q218c⟩ := isOf hZ e217 E_u_BuiltInCall_BuiltIn_IS_URI
    obtain ⟨_, _, ⟨T218, L218, k218, n218⟩, -, X218, ⟨Lc218, hQ218, l218, y218, z218⟩, st218⟩ := X217.virtualBack hx (y := (⟨"com/example/muset/muset/sparql/BuiltInCall$BuiltIn", "takes", "(I)Z"⟩ : MethodName)) (z := (⟨"com/example/muset/muset/sparql/BuiltInCall$BuiltIn", "takes", "(I)Z"⟩ : MethodName)) hown (mvT hZ (hw _ (List.mem_of_getElem? (i := 8) rfl))) (mvT hZ (hw _ (List.mem_of_getElem? (i := 9) rfl))) (notFace_of_selects (args := #[]) (mvT hZ (hw _ (List.mem_of_getElem? (i := 11) rfl)))) (mvT hZ (hw _ (List.mem_of_getElem? (i := 11) rfl))) (mvT hZ (hw _ (List.mem_of_getElem? (i := 10) rfl))) (by decide) (backOf (W := 0) (rm2 l Z a0 hw [] u_BuiltInCall_BuiltIn_IS_URI p1 (1 : Int32) (1 : Int32) h0 n0 Z0 F_minArguments_u_BuiltInCall_BuiltIn_IS_URI F_maxArguments_u_BuiltInCall_BuiltIn_IS_URI) hZ (hw _ (List.mem_of_getElem? (i := 12) rfl)) (hw _ (List.mem_of_getElem? (i := 6) rfl)) (by decide) (by decide)) q218a q218c (g := (mkF m 25 #[.val (.int p0), .val (.int p1), .val (.int p2), .val (.int v1), .val (.ref u_BuiltInCall_BuiltIn_IS_URI), .val (.int v63), .unset, .unset] [(.int p1), (.ref u_BuiltInCall_BuiltIn_IS_URI)])) rfl (by rw [hml]; rfl) (Steps.refl _) (argsL := [(.int p1)]) (rest := []) (lenOf pd3 rfl) rfl (by show 2 * 0 + _ ≤ _; exact Nat.le_of_eq rfl) (hb hby at_25) (fun _ _ => ⟨rfl, e217, (by decide : 0 + 0 ≤ _), (by decide : 0 + 0 ≤ _)⟩)
    dsimp only [Pt.U, Pt.locs, Pt.cells, Pt.slots] at X218 l218 y218 z218 st218 hQ218
    subst l218 y218 z218
    obtain ⟨rfl, N218q, e218⟩ := hQ218
    have N218 := Fr.app N217 N218q
    obtain ⟨_, _, ⟨T219, L219, k219, n219⟩, -, X219, ⟨Lc219, hQ219, l219, y219, z219⟩, st219⟩ := Jvm.LawKit.callS X218 hx (y := (⟨"com/example/muset/muset/sparql/BuiltInTakesPinLaw", "expected", "(II)Z"⟩ : MethodName)) hown (mvT hZ (hw _ (List.mem_of_getElem? (i := 17) rfl))) (mvT hZ (hw _ (List.mem_of_getElem? (i := 18) rfl))) (mvT hZ (hw _ (List.mem_of_getElem? (i := 3) rfl))) (mvT hZ (hw _ (List.mem_of_getElem? (i := 19) rfl))) (by decide) (backOf (W := 1) (rm3 l Z a0 hw [] v1 p1 h0 n0 Z0 ) hZ (hw _ (List.mem_of_getElem? (i := 19) rfl)) (hw _ (List.mem_of_getElem? (i := 3) rfl)) (by decide) (by decide)) (g := (mkF m 30 #[.val (.int p0), .val (.int p1), .val (.int p2), .val (.int v1), .val (.ref u_BuiltInCall_BuiltIn_IS_URI), .val (.int v63), .unset, .unset] [(.int p1), (.int v1), (.int (own_r2 p1 (1 : Int32) (1 : Int32)))])) rfl (by rw [hml]; rfl) (argsL := [(.int v1), (.int p1)]) (rest := [(.int (own_r2 p1 (1 : Int32) (1 : Int32)))]) (lenOf pd4 rfl) rfl (by show 2 * 0 + _ ≤ _; exact Nat.le_of_eq rfl) (hb hby at_30) (fun _ _ => ⟨rfl, e218, (by decide : 0 + 0 ≤ _), (by decide : 0 + 0 ≤ _)⟩)
    dsimp only [Pt.U, Pt.locs, Pt.cells, Pt.slots] at X219 l219 y219 z219 st219 hQ219
    subst l219 y219 z219
    obtain ⟨rfl, N219q, e219⟩ := hQ219
    have N219 := Fr.app N218 N219q
    obtain ⟨v65, hv65⟩ : ∃ z : Int32, z = (if (own_r2 p1 (1 : Int32) (1 : Int32)) = (own_r3 v1 p1) then (1 : Int32) else (0 : Int32)) := ⟨_, rfl⟩
    obtain ⟨T222, lc222, X222, N222, e222, st222⟩ := own_mrg (n0 := n0) (h := h0) (g := (mkF m 33 #[.val (.int p0), .val (.int p1), .val (.int p2), .val (.int v1), .val (.ref u_BuiltInCall_BuiltIn_IS_URI), .val (.int v63), .unset, .unset] [(.int (own_r3 v1 p1)), (.int (own_r2 p1 (1 : Int32) (1 : Int32)))])) (g' := (mkF m 41 #[.val (.int p0), .val (.int p1), .val (.int p2), .val (.int v1), .val (.ref u_BuiltInCall_BuiltIn_IS_URI), .val (.int v63), .unset, .unset] [(.int v65)])) X219 (by
      by_cases hc33_64 : (own_r2 p1 (1 : Int32) (1 : Int32)) = (own_r3 v1 p1)
      · have hgo220 : ∀ t, Steps p.tables e below (T219.setTop (mkF m 41 #[.val (.int p0), .val (.int p1), .val (.int p2), .val (.int v1), .val (.ref u_BuiltInCall_BuiltIn_IS_URI), .val (.int v63), .unset, .unset] [(.int (1 : Int32))])) t → Steps p.tables e below (T219.setTop (mkF m 33 #[.val (.int p0), .val (.int p1), .val (.int p2), .val (.int v1), .val (.ref u_BuiltInCall_BuiltIn_IS_URI), .val (.int v63), .unset, .unset] [(.int (own_r3 v1 p1)), (.int (own_r2 p1 (1 : Int32) (1 : Int32)))])) t := by
          intro t kt
          show Steps p.tables e below (T219.setTop (mkF m 33 #[.val (.int p0), .val (.int p1), .val (.int p2), .val (.int v1), .val (.ref u_BuiltInCall_BuiltIn_IS_URI), .val (.int v63), .unset, .unset] [(.int (own_r3 v1 p1)), (.int (own_r2 p1 (1 : Int32) (1 : Int32)))])) _
          refine XS.icmpNo X219.here hx rfl (hb hby at_33) rfl (teq hc33_64).2 ?_
          show Steps p.tables e below (T219.setTop (mkF m 36 #[.val (.int p0), .val (.int p1), .val (.int p2), .val (.int v1), .val (.ref u_BuiltInCall_BuiltIn_IS_URI), .val (.int v63), .unset, .unset] [])) _
          refine XS.iconst X219.here hx rfl (hb hby at_36) ?_
          show Steps p.tables e below (T219.setTop (mkF m 37 #[.val (.int p0), .val (.int p1), .val (.int p2), .val (.int v1), .val (.ref u_BuiltInCall_BuiltIn_IS_URI), .val (.int v63), .unset, .unset] [(.int (1 : Int32))])) _
          refine XS.goto X219.here hx rfl (pc0 := 37) (pc' := 41) rfl (hb hby at_37) (by decide) (by decide) ?_
          exact kt
        refine own_arm hgo220 ?_
        exact own_armEnd X219 N219 e219 (by rw [hv65.trans (if_pos hc33_64)])
      · have hgo221 : ∀ t, Steps p.tables e below (T219.setTop (mkF m 41 #[.val (.int p0), .val (.int p1), .val (.int p2), .val (.int v1), .val (.ref u_BuiltInCall_BuiltIn_IS_URI), .val (.int v63), .unset, .unset] [(.int (0 : Int32))])) t → Steps p.tables e below (T219.setTop (mkF m 33 #[.val (.int p0), .val (.int p1), .val (.int p2), .val (.int v1), .val (.ref u_BuiltInCall_BuiltIn_IS_URI), .val (.int v63), .unset, .unset] [(.int (own_r3 v1 p1)), (.int (own_r2 p1 (1 : Int32) (1 : Int32)))])) t := by
          intro t kt
          show Steps p.tables e below (T219.setTop (mkF m 33 #[.val (.int p0), .val (.int p1), .val (.int p2), .val (.int v1), .val (.ref u_BuiltInCall_BuiltIn_IS_URI), .val (.int v63), .unset, .unset] [(.int (own_r3 v1 p1)), (.int (own_r2 p1 (1 : Int32) (1 : Int32)))])) _
          refine XS.icmpYes X219.here hx rfl (pc0 := 33) (pc' := 40) rfl (hb hby at_33) rfl (feq hc33_64).2 (by decide) (by decide) ?_
          show Steps p.tables e below (T219.setTop (mkF m 40 #[.val (.int p0), .val (.int p1), .val (.int p2), .val (.int v1), .val (.ref u_BuiltInCall_BuiltIn_IS_URI), .val (.int v63), .unset, .unset] [])) _
          refine XS.iconst X219.here hx rfl (hb hby at_40) ?_
          exact kt
        refine own_arm hgo221 ?_
        exact own_armEnd X219 N219 e219 (by rw [hv65.trans (if_neg hc33_64)]))
    obtain ⟨cq223, kq223, q223a, q223b, q223c⟩ := isOf hZ e222 E_u_BuiltInCall_BuiltIn_IS_URI
    obtain ⟨_, _, ⟨T223, L223, k223, n223⟩, -, X223, ⟨Lc223, hQ223, l223, y223, z223⟩, st223⟩ := X222.virtualBack hx (y := (⟨"com/example/muset/muset/sparql/BuiltInCall$BuiltIn", "takes", "(I)Z"⟩ : MethodName)) (z := (⟨"com/example/muset/muset/sparql/BuiltInCall$BuiltIn", "takes", "(I)Z"⟩ : MethodName)) hown (mvT hZ (hw _ (List.mem_of_getElem? (i := 8) rfl))) (mvT hZ (hw _ (List.mem_of_getElem? (i := 9) rfl))) (notFace_of_selects (args := #[]) (mvT hZ (hw _ (List.mem_of_getElem? (i := 11) rfl)))) (mvT hZ (hw _ (List.mem_of_getElem? (i := 11) rfl))) (mvT hZ (hw _ (List.mem_of_getElem? (i := 10) rfl))) (by decide) (backOf (W := 0) (rm2 l Z a0 hw [] u_BuiltInCall_BuiltIn_IS_URI v63 (1 : Int32) (1 : Int32) h0 n0 Z0 F_minArguments_u_BuiltInCall_BuiltIn_IS_URI F_maxArguments_u_BuiltInCall_BuiltIn_IS_URI) hZ (hw _ (List.mem_of_getElem? (i := 12) rfl)) (hw _ (List.mem_of_getElem? (i := 6) rfl)) (by decide) (by decide)) q223a q223c (g := (mkF m 47 #[.val (.int p0), .val (.int p1), .val (.int p2), .val (.int v1), .val (.ref u_BuiltInCall_BuiltIn_IS_URI), .val (.int v63), .val (.int v65), .unset] [(.int v63), (.ref u_BuiltInCall_BuiltIn_IS_URI)])) rfl (by rw [hml]; rfl) (Steps.refl _) (argsL := [(.int v63)]) (rest := []) (lenOf pd3 rfl) rfl (by show 2 * 0 + _ ≤ _; exact Nat.le_of_eq rfl) (hb hby at_47) (fun _ _ => ⟨rfl, e222, (by decide : 0 + 0 ≤ _), (by decide : 0 + 0 ≤ _)⟩)
    dsimp only [Pt.U, Pt.locs, Pt.cells, Pt.slots] at X223 l223 y223 z223 st223 hQ223
    subst l223 y223 z223
    obtain ⟨rfl, N223q, e223⟩ := hQ223
    have N223 := Fr.app N222 N223q
    obtain ⟨_, _, ⟨T224, L224, k224, n224⟩, -, X224, ⟨Lc224, hQ224, l224, y224, z224⟩, st224⟩ := Jvm.LawKit.callS X223 hx (y := (⟨"com/example/muset/muset/sparql/BuiltInTakesPinLaw", "expected", "(II)Z"⟩ : MethodName)) hown (mvT hZ (hw _ (List.mem_of_getElem? (i := 17) rfl))) (mvT hZ (hw _ (List.mem_of_getElem? (i := 18) rfl))) (mvT hZ (hw _ (List.mem_of_getElem? (i := 3) rfl))) (mvT hZ (hw _ (List.mem_of_getElem? (i := 19) rfl))) (by decide) (backOf (W := 1) (rm3 l Z a0 hw [] v1 v63 h0 n0 Z0 ) hZ (hw _ (List.mem_of_getElem? (i := 19) rfl)) (hw _ (List.mem_of_getElem? (i := 3) rfl)) (by decide) (by decide)) (g := (mkF m 53 #[.val (.int p0), .val (.int p1), .val (.int p2), .val (.int v1), .val (.ref u_BuiltInCall_BuiltIn_IS_URI), .val (.int v63), .val (.int v65), .unset] [(.int v63), (.int v1), (.int (own_r2 v63 (1 : Int32) (1 : Int32)))])) rfl (by rw [hml]; rfl) (argsL := [(.int v1), (.int v63)]) (rest := [(.int (own_r2 v63 (1 : Int32) (1 : Int32)))]) (lenOf pd4 rfl) rfl (by show 2 * 0 + _ ≤ _; exact Nat.le_of_eq rfl) (hb hby at_53) (fun _ _ => ⟨rfl, e223, (by decide : 0 + 0 ≤ _), (by decide : 0 + 0 ≤ _)⟩)
    dsimp only [Pt.U, Pt.locs, Pt.cells, Pt.slots] at X224 l224 y224 z224 st224 hQ224
    subst l224 y224 z224
    obtain ⟨rfl, N224q, e224⟩ := hQ224
    have N224 := Fr.app N223 N224q
    obtain ⟨v67, hv67⟩ : ∃ z : Int32, z = (if (own_r2 v63 (1 : Int32) (1 : Int32)) = (own_r3 v1 v63) then (1 : Int32) else (0 : Int32)) := ⟨_, rfl⟩
    obtain ⟨T227, lc227, X227, N227, e227, st227⟩ := own_mrg (n0 := n0) (h := h0) (g := (mkF m 56 #[.val (.int p0), .val (.int p1), .val (.int p2), .val (.int v1), .val (.ref u_BuiltInCall_BuiltIn_IS_URI), .val (.int v63), .val (.int v65), .unset] [(.int (own_r3 v1 v63)), (.int (own_r2 v63 (1 : Int32) (1 : Int32)))])) (g' := (mkF m 64 #[.val (.int p0), .val (.int p1), .val (.int p2), .val (.int v1), .val (.ref u_BuiltInCall_BuiltIn_IS_URI), .val (.int v63), .val (.int v65), .unset] [(.int v67)])) X224 (by
      by_cases hc56_66 : (own_r2 v63 (1 : Int32) (1 : Int32)) = (own_r3 v1 v63)
      · have hgo225 : ∀ t, Steps p.tables e below (T224.setTop (mkF m 64 #[.val (.int p0), .val (.int p1), .val (.int p2), .val (.int v1), .val (.ref u_BuiltInCall_BuiltIn_IS_URI), .val (.int v63), .val (.int v65), .unset] [(.int (1 : Int32))])) t → Steps p.tables e below (T224.setTop (mkF m 56 #[.val (.int p0), .val (.int p1), .val (.int p2), .val (.int v1), .val (.ref u_BuiltInCall_BuiltIn_IS_URI), .val (.int v63), .val (.int v65), .unset] [(.int (own_r3 v1 v63)), (.int (own_r2 v63 (1 : Int32) (1 : Int32)))])) t := by
          intro t kt
          show Steps p.tables e below (T224.setTop (mkF m 56 #[.val (.int p0), .val (.int p1), .val (.int p2), .val (.int v1), .val (.ref u_BuiltInCall_BuiltIn_IS_URI), .val (.int v63), .val (.int v65), .unset] [(.int (own_r3 v1 v63)), (.int (own_r2 v63 (1 : Int32) (1 : Int32)))])) _
          refine XS.icmpNo X224.here hx rfl (hb hby at_56) rfl (teq hc56_66).2 ?_
          show Steps p.tables e below (T224.setTop (mkF m 59 #[.val (.int p0), .val (.int p1), .val (.int p2), .val (.int v1), .val (.ref u_BuiltInCall_BuiltIn_IS_URI), .val (.int v63), .val (.int v65), .unset] [])) _
          refine XS.iconst X224.here hx rfl (hb hby at_59) ?_
          show Steps p.tables e below (T224.setTop (mkF m 60 #[.val (.int p0), .val (.int p1), .val (.int p2), .val (.int v1), .val (.ref u_BuiltInCall_BuiltIn_IS_URI), .val (.int v63), .val (.int v65), .unset] [(.int (1 : Int32))])) _
          refine XS.goto X224.here hx rfl (pc0 := 60) (pc' := 64) rfl (hb hby at_60) (by decide) (by decide) ?_
          exact kt
        refine own_arm hgo225 ?_
        exact own_armEnd X224 N224 e224 (by rw [hv67.trans (if_pos hc56_66)])
      · have hgo226 : ∀ t, Steps p.tables e below (T224.setTop (mkF m 64 #[.val (.int p0), .val (.int p1), .val (.int p2), .val (.int v1), .val (.ref u_BuiltInCall_BuiltIn_IS_URI), .val (.int v63), .val (.int v65), .unset] [(.int (0 : Int32))])) t → Steps p.tables e below (T224.setTop (mkF m 56 #[.val (.int p0), .val (.int p1), .val (.int p2), .val (.int v1), .val (.ref u_BuiltInCall_BuiltIn_IS_URI), .val (.int v63), .val (.int v65), .unset] [(.int (own_r3 v1 v63)), (.int (own_r2 v63 (1 : Int32) (1 : Int32)))])) t := by
          intro t kt
          show Steps p.tables e below (T224.setTop (mkF m 56 #[.val (.int p0), .val (.int p1), .val (.int p2), .val (.int v1), .val (.ref u_BuiltInCall_BuiltIn_IS_URI), .val (.int v63), .val (.int v65), .unset] [(.int (own_r3 v1 v63)), (.int (own_r2 v63 (1 : Int32) (1 : Int32)))])) _
          refine XS.icmpYes X224.here hx rfl (pc0 := 56) (pc' := 63) rfl (hb hby at_56) rfl (feq hc56_66).2 (by decide) (by decide) ?_
          show Steps p.tables e below (T224.setTop (mkF m 63 #[.val (.int p0), .val (.int p1), .val (.int p2), .val (.int v1), .val (.ref u_BuiltInCall_BuiltIn_IS_URI), .val (.int v63), .val (.int v65), .unset] [])) _
          refine XS.iconst X224.here hx rfl (hb hby at_63) ?_
          exact kt
        refine own_arm hgo226 ?_
        exact own_armEnd X224 N224 e224 (by rw [hv67.trans (if_neg hc56_66)]))
    obtain ⟨v70, hv70⟩ : ∃ z : Int32, z = (if v67 = (0 : Int32) then (0 : Int32) else (1 : Int32)) := ⟨_, rfl⟩
    obtain ⟨v71, hv71⟩ : ∃ z : Int32, z = (if v65 = (0 : Int32) then (0 : Int32) else v70) := ⟨_, rfl⟩
    obtain ⟨T233, lc233, X233, N233, e233, st233⟩ := own_mrg (n0 := n0) (h := h0) (g := (mkF m 68 #[.val (.int p0), .val (.int p1), .val (.int p2), .val (.int v1), .val (.ref u_BuiltInCall_BuiltIn_IS_URI), .val (.int v63), .val (.int v65), .val (.int v67)] [(.int v65)])) (g' := (mkF m 81 #[.val (.int p0), .val (.int p1), .val (.int p2), .val (.int v1), .val (.ref u_BuiltInCall_BuiltIn_IS_URI), .val (.int v63), .val (.int v65), .val (.int v67)] [(.int v71)])) X227 (by
      by_cases hc68_68 : v65 = (0 : Int32)
      · have hgo228 : ∀ t, Steps p.tables e below (T227.setTop (mkF m 81 #[.val (.int p0), .val (.int p1), .val (.int p2), .val (.int v1), .val (.ref u_BuiltInCall_BuiltIn_IS_URI), .val (.int v63), .val (.int v65), .val (.int v67)] [(.int (0 : Int32))])) t → Steps p.tables e below (T227.setTop (mkF m 68 #[.val (.int p0), .val (.int p1), .val (.int p2), .val (.int v1), .val (.ref u_BuiltInCall_BuiltIn_IS_URI), .val (.int v63), .val (.int v65), .val (.int v67)] [(.int v65)])) t := by
          intro t kt
          show Steps p.tables e below (T227.setTop (mkF m 68 #[.val (.int p0), .val (.int p1), .val (.int p2), .val (.int v1), .val (.ref u_BuiltInCall_BuiltIn_IS_URI), .val (.int v63), .val (.int v65), .val (.int v67)] [(.int v65)])) _
          refine XS.ifYes X227.here hx rfl (pc0 := 68) (pc' := 80) rfl (hb hby at_68) rfl ((if0 _ _).trans (teq hc68_68).1) (by decide) (by decide) ?_
          show Steps p.tables e below (T227.setTop (mkF m 80 #[.val (.int p0), .val (.int p1), .val (.int p2), .val (.int v1), .val (.ref u_BuiltInCall_BuiltIn_IS_URI), .val (.int v63), .val (.int v65), .val (.int v67)] [])) _
          refine XS.iconst X227.here hx rfl (hb hby at_80) ?_
          exact kt
        refine own_arm hgo228 ?_
        exact own_armEnd X227 N227 e227 (by rw [hv71.trans (if_pos hc68_68)])
      · obtain ⟨T231, lc231, X231, N231, e231, st231⟩ := own_mrg (n0 := n0) (h := h0) (g := (mkF m 73 #[.val (.int p0), .val (.int p1), .val (.int p2), .val (.int v1), .val (.ref u_BuiltInCall_BuiltIn_IS_URI), .val (.int v63), .val (.int v65), .val (.int v67)] [(.int v67)])) (g' := (mkF m 81 #[.val (.int p0), .val (.int p1), .val (.int p2), .val (.int v1), .val (.ref u_BuiltInCall_BuiltIn_IS_URI), .val (.int v63), .val (.int v65), .val (.int v67)] [(.int v70)])) X227 (by
          by_cases hc73_69 : v67 = (0 : Int32)
          · have hgo229 : ∀ t, Steps p.tables e below (T227.setTop (mkF m 81 #[.val (.int p0), .val (.int p1), .val (.int p2), .val (.int v1), .val (.ref u_BuiltInCall_BuiltIn_IS_URI), .val (.int v63), .val (.int v65), .val (.int v67)] [(.int (0 : Int32))])) t → Steps p.tables e below (T227.setTop (mkF m 73 #[.val (.int p0), .val (.int p1), .val (.int p2), .val (.int v1), .val (.ref u_BuiltInCall_BuiltIn_IS_URI), .val (.int v63), .val (.int v65), .val (.int v67)] [(.int v67)])) t := by
              intro t kt
              show Steps p.tables e below (T227.setTop (mkF m 73 #[.val (.int p0), .val (.int p1), .val (.int p2), .val (.int v1), .val (.ref u_BuiltInCall_BuiltIn_IS_URI), .val (.int v63), .val (.int v65), .val (.int v67)] [(.int v67)])) _
              refine XS.ifYes X227.here hx rfl (pc0 := 73) (pc' := 80) rfl (hb hby at_73) rfl ((if0 _ _).trans (teq hc73_69).1) (by decide) (by decide) ?_
              show Steps p.tables e below (T227.setTop (mkF m 80 #[.val (.int p0), .val (.int p1), .val (.int p2), .val (.int v1), .val (.ref u_BuiltInCall_BuiltIn_IS_URI), .val (.int v63), .val (.int v65), .val (.int v67)] [])) _
              refine XS.iconst X227.here hx rfl (hb hby at_80) ?_
              exact kt
            refine own_arm hgo229 ?_
            exact own_armEnd X227 N227 e227 (by rw [hv70.trans (if_pos hc73_69)])
          · have hgo230 : ∀ t, Steps p.tables e below (T227.setTop (mkF m 81 #[.val (.int p0), .val (.int p1), .val (.int p2), .val (.int v1), .val (.ref u_BuiltInCall_BuiltIn_IS_URI), .val (.int v63), .val (.int v65), .val (.int v67)] [(.int (1 : Int32))])) t → Steps p.tables e below (T227.setTop (mkF m 73 #[.val (.int p0), .val (.int p1), .val (.int p2), .val (.int v1), .val (.ref u_BuiltInCall_BuiltIn_IS_URI), .val (.int v63), .val (.int v65), .val (.int v67)] [(.int v67)])) t := by
              intro t kt
              show Steps p.tables e below (T227.setTop (mkF m 73 #[.val (.int p0), .val (.int p1), .val (.int p2), .val (.int v1), .val (.ref u_BuiltInCall_BuiltIn_IS_URI), .val (.int v63), .val (.int v65), .val (.int v67)] [(.int v67)])) _
              refine XS.ifNo X227.here hx rfl (hb hby at_73) rfl ((if0 _ _).trans (feq hc73_69).1) ?_
              show Steps p.tables e below (T227.setTop (mkF m 76 #[.val (.int p0), .val (.int p1), .val (.int p2), .val (.int v1), .val (.ref u_BuiltInCall_BuiltIn_IS_URI), .val (.int v63), .val (.int v65), .val (.int v67)] [])) _
              refine XS.iconst X227.here hx rfl (hb hby at_76) ?_
              show Steps p.tables e below (T227.setTop (mkF m 77 #[.val (.int p0), .val (.int p1), .val (.int p2), .val (.int v1), .val (.ref u_BuiltInCall_BuiltIn_IS_URI), .val (.int v63), .val (.int v65), .val (.int v67)] [(.int (1 : Int32))])) _
              refine XS.goto X227.here hx rfl (pc0 := 77) (pc' := 81) rfl (hb hby at_77) (by decide) (by decide) ?_
              exact kt
            refine own_arm hgo230 ?_
            exact own_armEnd X227 N227 e227 (by rw [hv70.trans (if_neg hc73_69)]))
        have hgo232 : ∀ t, Steps p.tables e below (T231.setTop (mkF m 81 #[.val (.int p0), .val (.int p1), .val (.int p2), .val (.int v1), .val (.ref u_BuiltInCall_BuiltIn_IS_URI), .val (.int v63), .val (.int v65), .val (.int v67)] [(.int v70)])) t → Steps p.tables e below (T227.setTop (mkF m 68 #[.val (.int p0), .val (.int p1), .val (.int p2), .val (.int v1), .val (.ref u_BuiltInCall_BuiltIn_IS_URI), .val (.int v63), .val (.int v65), .val (.int v67)] [(.int v65)])) t := by
          intro t kt
          show Steps p.tables e below (T227.setTop (mkF m 68 #[.val (.int p0), .val (.int p1), .val (.int p2), .val (.int v1), .val (.ref u_BuiltInCall_BuiltIn_IS_URI), .val (.int v63), .val (.int v65), .val (.int v67)] [(.int v65)])) _
          refine XS.ifNo X227.here hx rfl (hb hby at_68) rfl ((if0 _ _).trans (feq hc68_68).1) ?_
          show Steps p.tables e below (T227.setTop (mkF m 71 #[.val (.int p0), .val (.int p1), .val (.int p2), .val (.int v1), .val (.ref u_BuiltInCall_BuiltIn_IS_URI), .val (.int v63), .val (.int v65), .val (.int v67)] [])) _
          refine XS.iload X227.here hx rfl (hb hby at_71) rfl ?_
          show Steps p.tables e below (T227.setTop (mkF m 73 #[.val (.int p0), .val (.int p1), .val (.int p2), .val (.int v1), .val (.ref u_BuiltInCall_BuiltIn_IS_URI), .val (.int v63), .val (.int v65), .val (.int v67)] [(.int v67)])) _
          refine st231 _ ?_
          exact kt
        refine own_arm hgo232 ?_
        exact own_armEnd X231 N231 e231 (by rw [hv71.trans (if_neg hc68_68)]))
    have hgo234 : ∀ t, Steps p.tables e below (T233.setTop (mkF m 81 #[.val (.int p0), .val (.int p1), .val (.int p2), .val (.int v1), .val (.ref u_BuiltInCall_BuiltIn_IS_URI), .val (.int v63), .val (.int v65), .val (.int v67)] [(.int v71)])) t → Steps p.tables e below (s₁.setTop (mkF m 9 #[.val (.int p0), .val (.int p1), .val (.int p2), .val (.int v1), .unset, .unset, .unset, .unset] [(.int v1)])) t := by
      intro t kt
      show Steps p.tables e below (s₁.setTop (mkF m 9 #[.val (.int p0), .val (.int p1), .val (.int p2), .val (.int v1), .unset, .unset, .unset, .unset] [(.int v1)])) _
      refine st217 _ ?_
      show Steps p.tables e below (T217.setTop (mkF m 12 #[.val (.int p0), .val (.int p1), .val (.int p2), .val (.int v1), .unset, .unset, .unset, .unset] [(.ref u_BuiltInCall_BuiltIn_IS_URI)])) _
      refine XS.astore X217.here hx rfl (hb hby at_12) rfl rfl (l' := #[.val (.int p0), .val (.int p1), .val (.int p2), .val (.int v1), .val (.ref u_BuiltInCall_BuiltIn_IS_URI), .unset, .unset, .unset]) rfl ?_
      show Steps p.tables e below (T217.setTop (mkF m 14 #[.val (.int p0), .val (.int p1), .val (.int p2), .val (.int v1), .val (.ref u_BuiltInCall_BuiltIn_IS_URI), .unset, .unset, .unset] [])) _
      refine XS.iloadN X217.here hx rfl (hb hby at_14) rfl ?_
      show Steps p.tables e below (T217.setTop (mkF m 15 #[.val (.int p0), .val (.int p1), .val (.int p2), .val (.int v1), .val (.ref u_BuiltInCall_BuiltIn_IS_URI), .unset, .unset, .unset] [(.int p2)])) _
      refine XS.bipush X217.here hx rfl (hb hby at_15) ?_
      show Steps p.tables e below (T217.setTop (mkF m 17 #[.val (.int p0), .val (.int p1), .val (.int p2), .val (.int v1), .val (.ref u_BuiltInCall_BuiltIn_IS_URI), .unset, .unset, .unset] [(.int (7 : Int32)), (.int p2)])) _
      refine XS.iand X217.here hx rfl (hb hby at_17) rfl ?_
      show Steps p.tables e below (T217.setTop (mkF m 18 #[.val (.int p0), .val (.int p1), .val (.int p2), .val (.int v1), .val (.ref u_BuiltInCall_BuiltIn_IS_URI), .unset, .unset, .unset] [(.int (p2 &&& (7 : Int32)))])) _
      refine XS.iconst X217.here hx rfl (hb hby at_18) ?_
      show Steps p.tables e below (T217.setTop (mkF m 19 #[.val (.int p0), .val (.int p1), .val (.int p2), .val (.int v1), .val (.ref u_BuiltInCall_BuiltIn_IS_URI), .unset, .unset, .unset] [(.int (2 : Int32)), (.int (p2 &&& (7 : Int32)))])) _
      refine XS.isub X217.here hx rfl (hb hby at_19) rfl ?_
      show Steps p.tables e below (T217.setTop (mkF m 20 #[.val (.int p0), .val (.int p1), .val (.int p2), .val (.int v1), .val (.ref u_BuiltInCall_BuiltIn_IS_URI), .unset, .unset, .unset] [(.int ((p2 &&& (7 : Int32)) - (2 : Int32)))])) _
      rw [← hv63]
      show Steps p.tables e below (T217.setTop (mkF m 20 #[.val (.int p0), .val (.int p1), .val (.int p2), .val (.int v1), .val (.ref u_BuiltInCall_BuiltIn_IS_URI), .unset, .unset, .unset] [(.int v63)])) _
      refine XS.istore X217.here hx rfl (hb hby at_20) rfl (l' := #[.val (.int p0), .val (.int p1), .val (.int p2), .val (.int v1), .val (.ref u_BuiltInCall_BuiltIn_IS_URI), .val (.int v63), .unset, .unset]) rfl ?_
      show Steps p.tables e below (T217.setTop (mkF m 22 #[.val (.int p0), .val (.int p1), .val (.int p2), .val (.int v1), .val (.ref u_BuiltInCall_BuiltIn_IS_URI), .val (.int v63), .unset, .unset] [])) _
      refine XS.aload X217.here hx rfl (hb hby at_22) rfl rfl ?_
      show Steps p.tables e below (T217.setTop (mkF m 24 #[.val (.int p0), .val (.int p1), .val (.int p2), .val (.int v1), .val (.ref u_BuiltInCall_BuiltIn_IS_URI), .val (.int v63), .unset, .unset] [(.ref u_BuiltInCall_BuiltIn_IS_URI)])) _
      refine XS.iloadN X217.here hx rfl (hb hby at_24) rfl ?_
      show Steps p.tables e below (T217.setTop (mkF m 25 #[.val (.int p0), .val (.int p1), .val (.int p2), .val (.int v1), .val (.ref u_BuiltInCall_BuiltIn_IS_URI), .val (.int v63), .unset, .unset] [(.int p1), (.ref u_BuiltInCall_BuiltIn_IS_URI)])) _
      refine st218.trans ?_
      show Steps p.tables e below (T218.setTop (mkF m 28 #[.val (.int p0), .val (.int p1), .val (.int p2), .val (.int v1), .val (.ref u_BuiltInCall_BuiltIn_IS_URI), .val (.int v63), .unset, .unset] [(.int (own_r2 p1 (1 : Int32) (1 : Int32)))])) _
      refine XS.iloadN X218.here hx rfl (hb hby at_28) rfl ?_
      show Steps p.tables e below (T218.setTop (mkF m 29 #[.val (.int p0), .val (.int p1), .val (.int p2), .val (.int v1), .val (.ref u_BuiltInCall_BuiltIn_IS_URI), .val (.int v63), .unset, .unset] [(.int v1), (.int (own_r2 p1 (1 : Int32) (1 : Int32)))])) _
      refine XS.iloadN X218.here hx rfl (hb hby at_29) rfl ?_
      show Steps p.tables e below (T218.setTop (mkF m 30 #[.val (.int p0), .val (.int p1), .val (.int p2), .val (.int v1), .val (.ref u_BuiltInCall_BuiltIn_IS_URI), .val (.int v63), .unset, .unset] [(.int p1), (.int v1), (.int (own_r2 p1 (1 : Int32) (1 : Int32)))])) _
      refine st219 _ ?_
      show Steps p.tables e below (T219.setTop (mkF m 33 #[.val (.int p0), .val (.int p1), .val (.int p2), .val (.int v1), .val (.ref u_BuiltInCall_BuiltIn_IS_URI), .val (.int v63), .unset, .unset] [(.int (own_r3 v1 p1)), (.int (own_r2 p1 (1 : Int32) (1 : Int32)))])) _
      refine st222 _ ?_
      show Steps p.tables e below (T222.setTop (mkF m 41 #[.val (.int p0), .val (.int p1), .val (.int p2), .val (.int v1), .val (.ref u_BuiltInCall_BuiltIn_IS_URI), .val (.int v63), .unset, .unset] [(.int v65)])) _
      refine XS.istore X222.here hx rfl (hb hby at_41) rfl (l' := #[.val (.int p0), .val (.int p1), .val (.int p2), .val (.int v1), .val (.ref u_BuiltInCall_BuiltIn_IS_URI), .val (.int v63), .val (.int v65), .unset]) rfl ?_
      show Steps p.tables e below (T222.setTop (mkF m 43 #[.val (.int p0), .val (.int p1), .val (.int p2), .val (.int v1), .val (.ref u_BuiltInCall_BuiltIn_IS_URI), .val (.int v63), .val (.int v65), .unset] [])) _
      refine XS.aload X222.here hx rfl (hb hby at_43) rfl rfl ?_
      show Steps p.tables e below (T222.setTop (mkF m 45 #[.val (.int p0), .val (.int p1), .val (.int p2), .val (.int v1), .val (.ref u_BuiltInCall_BuiltIn_IS_URI), .val (.int v63), .val (.int v65), .unset] [(.ref u_BuiltInCall_BuiltIn_IS_URI)])) _
      refine XS.iload X222.here hx rfl (hb hby at_45) rfl ?_
      show Steps p.tables e below (T222.setTop (mkF m 47 #[.val (.int p0), .val (.int p1), .val (.int p2), .val (.int v1), .val (.ref u_BuiltInCall_BuiltIn_IS_URI), .val (.int v63), .val (.int v65), .unset] [(.int v63), (.ref u_BuiltInCall_BuiltIn_IS_URI)])) _
      refine st223.trans ?_
      show Steps p.tables e below (T223.setTop (mkF m 50 #[.val (.int p0), .val (.int p1), .val (.int p2), .val (.int v1), .val (.ref u_BuiltInCall_BuiltIn_IS_URI), .val (.int v63), .val (.int v65), .unset] [(.int (own_r2 v63 (1 : Int32) (1 : Int32)))])) _
      refine XS.iloadN X223.here hx rfl (hb hby at_50) rfl ?_
      show Steps p.tables e below (T223.setTop (mkF m 51 #[.val (.int p0), .val (.int p1), .val (.int p2), .val (.int v1), .val (.ref u_BuiltInCall_BuiltIn_IS_URI), .val (.int v63), .val (.int v65), .unset] [(.int v1), (.int (own_r2 v63 (1 : Int32) (1 : Int32)))])) _
      refine XS.iload X223.here hx rfl (hb hby at_51) rfl ?_
      show Steps p.tables e below (T223.setTop (mkF m 53 #[.val (.int p0), .val (.int p1), .val (.int p2), .val (.int v1), .val (.ref u_BuiltInCall_BuiltIn_IS_URI), .val (.int v63), .val (.int v65), .unset] [(.int v63), (.int v1), (.int (own_r2 v63 (1 : Int32) (1 : Int32)))])) _
      refine st224 _ ?_
      show Steps p.tables e below (T224.setTop (mkF m 56 #[.val (.int p0), .val (.int p1), .val (.int p2), .val (.int v1), .val (.ref u_BuiltInCall_BuiltIn_IS_URI), .val (.int v63), .val (.int v65), .unset] [(.int (own_r3 v1 v63)), (.int (own_r2 v63 (1 : Int32) (1 : Int32)))])) _
      refine st227 _ ?_
      show Steps p.tables e below (T227.setTop (mkF m 64 #[.val (.int p0), .val (.int p1), .val (.int p2), .val (.int v1), .val (.ref u_BuiltInCall_BuiltIn_IS_URI), .val (.int v63), .val (.int v65), .unset] [(.int v67)])) _
      refine XS.istore X227.here hx rfl (hb hby at_64) rfl (l' := #[.val (.int p0), .val (.int p1), .val (.int p2), .val (.int v1), .val (.ref u_BuiltInCall_BuiltIn_IS_URI), .val (.int v63), .val (.int v65), .val (.int v67)]) rfl ?_
      show Steps p.tables e below (T227.setTop (mkF m 66 #[.val (.int p0), .val (.int p1), .val (.int p2), .val (.int v1), .val (.ref u_BuiltInCall_BuiltIn_IS_URI), .val (.int v63), .val (.int v65), .val (.int v67)] [])) _
      refine XS.iload X227.here hx rfl (hb hby at_66) rfl ?_
      show Steps p.tables e below (T227.setTop (mkF m 68 #[.val (.int p0), .val (.int p1), .val (.int p2), .val (.int v1), .val (.ref u_BuiltInCall_BuiltIn_IS_URI), .val (.int v63), .val (.int v65), .val (.int v67)] [(.int v65)])) _
      refine st233 _ ?_
      exact kt
    refine own_go hgo234 ?_
    have hz235 : v71 = 1 := own_leaf6 (p0 := p0) (p1 := p1) (p2 := p2) (u_BuiltInCall_BuiltIn_STR := u_BuiltInCall_BuiltIn_STR) (u_BuiltInCall_BuiltIn_LANG := u_BuiltInCall_BuiltIn_LANG) (u_BuiltInCall_BuiltIn_SAME_TERM := u_BuiltInCall_BuiltIn_SAME_TERM) (u_BuiltInCall_BuiltIn_IS_IRI := u_BuiltInCall_BuiltIn_IS_IRI) (u_BuiltInCall_BuiltIn_IS_LITERAL := u_BuiltInCall_BuiltIn_IS_LITERAL) (u_BuiltInCall_BuiltIn_DATATYPE := u_BuiltInCall_BuiltIn_DATATYPE) (u_BuiltInCall_BuiltIn_IS_URI := u_BuiltInCall_BuiltIn_IS_URI) (u_BuiltInCall_BuiltIn_IS_BLANK := u_BuiltInCall_BuiltIn_IS_BLANK) (u_BuiltInCall_BuiltIn_REGEX := u_BuiltInCall_BuiltIn_REGEX) (u_BuiltInCall_BuiltIn_LANG_MATCHES := u_BuiltInCall_BuiltIn_LANG_MATCHES) hv1 hv63 hv65 hv67 hv70 hv71 hs9_2 hs9_12 hs9_22 hs9_32 hs9_42 hs9_52 hs9_62
    exact own_retZ X233 hx Bd.returns Bd.notSynchronized (hb hby at_81) (by decide) (by decide) (Or.inr hz235) ⟨by rw [hz235], N233⟩
  by_cases hs9_72 : v1 = (7 : Int32)
  · obtain ⟨_, _, ⟨T236, L236, k236, n236⟩, -, X236, ⟨Lc236, hQ236, l236, y236, z236⟩, st236⟩ := Jvm.LawKit.callS X0 hx (y := (⟨"com/example/muset/muset/sparql/BuiltInTakesPinLaw", "pick", "(I)Lcom/example/muset/muset/sparql/BuiltInCall$BuiltIn;"⟩ : MethodName)) hown (mvT hZ (hw _ (List.mem_of_getElem? (i := 1) rfl))) (mvT hZ (hw _ (List.mem_of_getElem? (i := 2) rfl))) (mvT hZ (hw _ (List.mem_of_getElem? (i := 3) rfl))) (mvT hZ (hw _ (List.mem_of_getElem? (i := 4) rfl))) (by decide) (backOf (W := 0) (rm1_7 l Z a0 hw [] v1 u_BuiltInCall_BuiltIn_IS_BLANK h0 n0 Z0 (by first | assumption | decide : ¬ (v1 = (0 : Int32))) (by first | assumption | decide : ¬ (v1 = (1 : Int32))) (by first | assumption | decide : ¬ (v1 = (2 : Int32))) (by first | assumption | decide : ¬ (v1 = (3 : Int32))) (by first | assumption | decide : ¬ (v1 = (4 : Int32))) (by first | assumption | decide : ¬ (v1 = (5 : Int32))) (by first | assumption | decide : ¬ (v1 = (6 : Int32))) (by first | assumption | decide : v1 = (7 : Int32)) S_u_BuiltInCall_BuiltIn_IS_BLANK) hZ (hw _ (List.mem_of_getElem? (i := 4) rfl)) (hw _ (List.mem_of_getElem? (i := 3) rfl)) (by decide) (by decide)) (g := (mkF m 9 #[.val (.int p0), .val (.int p1), .val (.int p2), .val (.int v1), .unset, .unset, .unset, .unset] [(.int v1)])) rfl (by rw [hml]; rfl) (argsL := [(.int v1)]) (rest := []) (lenOf pd2 rfl) rfl (by show 2 * 0 + _ ≤ _; exact Nat.le_of_eq rfl) (hb hby at_9) (fun _ _ => ⟨rfl, e0, (by decide : 0 + 0 ≤ _), (by decide : 0 + 0 ≤ _)⟩)
    dsimp only [Pt.U, Pt.locs, Pt.cells, Pt.slots] at X236 l236 y236 z236 st236 hQ236
    subst l236 y236 z236
    obtain ⟨rfl, N236q, e236⟩ := hQ236
    have N236 := Fr.app N0 N236q
    obtain ⟨v73, hv73⟩ : ∃ z : Int32, z = ((p2 &&& (7 : Int32)) - (2 : Int32)) := ⟨_, rfl⟩
    obtain ⟨cq237, kq237, q237a, q237b, q237c⟩ := isOf hZ e236 E_u_BuiltInCall_BuiltIn_IS_BLANK
    obtain ⟨_, _, ⟨T237, L237, k237, n237⟩, -, X237, ⟨Lc237, hQ237, l237, y237, z237⟩, st237⟩ := X236.virtualBack hx (y := (⟨"com/example/muset/muset/sparql/BuiltInCall$BuiltIn", "takes", "(I)Z"⟩ : MethodName)) (z := (⟨"com/example/muset/muset/sparql/BuiltInCall$BuiltIn", "takes", "(I)Z"⟩ : MethodName)) hown (mvT hZ (hw _ (List.mem_of_getElem? (i := 8) rfl))) (mvT hZ (hw _ (List.mem_of_getElem? (i := 9) rfl))) (notFace_of_selects (args := #[]) (mvT hZ (hw _ (List.mem_of_getElem? (i := 11) rfl)))) (mvT hZ (hw _ (List.mem_of_getElem? (i := 11) rfl))) (mvT hZ (hw _ (List.mem_of_getElem? (i := 10) rfl))) (by decide) (backOf (W := 0) (rm2 l Z a0 hw [] u_BuiltInCall_BuiltIn_IS_BLANK p1 (1 : Int32) (1 : Int32) h0 n0 Z0 F_minArguments_u_BuiltInCall_BuiltIn_IS_BLANK F_maxArguments_u_BuiltInCall_BuiltIn_IS_BLANK) hZ (hw _ (List.mem_of_getElem? (i := 12) rfl)) (hw _ (List.mem_of_getElem? (i := 6) rfl)) (by decide) (by decide)) q237a q237c (g := (mkF m 25 #[.val (.int p0), .val (.int p1), .val (.int p2), .val (.int v1), .val (.ref u_BuiltInCall_BuiltIn_IS_BLANK), .val (.int v73), .unset, .unset] [(.int p1), (.ref u_BuiltInCall_BuiltIn_IS_BLANK)])) rfl (by rw [hml]; rfl) (Steps.refl _) (argsL := [(.int p1)]) (rest := []) (lenOf pd3 rfl) rfl (by show 2 * 0 + _ ≤ _; exact Nat.le_of_eq rfl) (hb hby at_25) (fun _ _ => ⟨rfl, e236, (by decide : 0 + 0 ≤ _), (by decide : 0 + 0 ≤ _)⟩)
    dsimp only [Pt.U, Pt.locs, Pt.cells, Pt.slots] at X237 l237 y237 z237 st237 hQ237
    subst l237 y237 z237
    obtain ⟨rfl, N237q, e237⟩ := hQ237
    have N237 := Fr.app N236 N237q
    obtain ⟨_, _, ⟨T238, L238, k238, n238⟩, -, X238, ⟨Lc238, hQ238, l238, y238, z238⟩, st238⟩ := Jvm.LawKit.callS X237 hx (y := (⟨"com/example/muset/muset/sparql/BuiltInTakesPinLaw", "expected", "(II)Z"⟩ : MethodName)) hown (mvT hZ (hw _ (List.mem_of_getElem? (i := 17) rfl))) (mvT hZ (hw _ (List.mem_of_getElem? (i := 18) rfl))) (mvT hZ (hw _ (List.mem_of_getElem? (i := 3) rfl))) (mvT hZ (hw _ (List.mem_of_getElem? (i := 19) rfl))) (by decide) (backOf (W := 1) (rm3 l Z a0 hw [] v1 p1 h0 n0 Z0 ) hZ (hw _ (List.mem_of_getElem? (i := 19) rfl)) (hw _ (List.mem_of_getElem? (i := 3) rfl)) (by decide) (by decide)) (g := (mkF m 30 #[.val (.int p0), .val (.int p1), .val (.int p2), .val (.int v1), .val (.ref u_BuiltInCall_BuiltIn_IS_BLANK), .val (.int v73), .unset, .unset] [(.int p1), (.int v1), (.int (own_r2 p1 (1 : Int32) (1 : Int32)))])) rfl (by rw [hml]; rfl) (argsL := [(.int v1), (.int p1)]) (rest := [(.int (own_r2 p1 (1 : Int32) (1 : Int32)))]) (lenOf pd4 rfl) rfl (by show 2 * 0 + _ ≤ _; exact Nat.le_of_eq rfl) (hb hby at_30) (fun _ _ => ⟨rfl, e237, (by decide : 0 + 0 ≤ _), (by decide : 0 + 0 ≤ _)⟩)
    dsimp only [Pt.U, Pt.locs, Pt.cells, Pt.slots] at X238 l238 y238 z238 st238 hQ238
    subst l238 y238 z238
    obtain ⟨rfl, N238q, e238⟩ := hQ238
    have N238 := Fr.app N237 N238q
    obtain ⟨v75, hv75⟩ : ∃ z : Int32, z = (if (own_r2 p1 (1 : Int32) (1 : Int32)) = (own_r3 v1 p1) then (1 : Int32) else (0 : Int32)) := ⟨_, rfl⟩
    obtain ⟨T241, lc241, X241, N241, e241, st241⟩ := own_mrg (n0 := n0) (h := h0) (g := (mkF m 33 #[.val (.int p0), .val (.int p1), .val (.int p2), .val (.int v1), .val (.ref u_BuiltInCall_BuiltIn_IS_BLANK), .val (.int v73), .unset, .unset] [(.int (own_r3 v1 p1)), (.int (own_r2 p1 (1 : Int32) (1 : Int32)))])) (g' := (mkF m 41 #[.val (.int p0), .val (.int p1), .val (.int p2), .val (.int v1), .val (.ref u_BuiltInCall_BuiltIn_IS_BLANK), .val (.int v73), .unset, .unset] [(.int v75)])) X238 (by
      by_cases hc33_74 : (own_r2 p1 (1 : Int32) (1 : Int32)) = (own_r3 v1 p1)
      · have hgo239 : ∀ t, Steps p.tables e below (T238.setTop (mkF m 41 #[.val (.int p0), .val (.int p1), .val (.int p2), .val (.int v1), .val (.ref u_BuiltInCall_BuiltIn_IS_BLANK), .val (.int v73), .unset, .unset] [(.int (1 : Int32))])) t → Steps p.tables e below (T238.setTop (mkF m 33 #[.val (.int p0), .val (.int p1), .val (.int p2), .val (.int v1), .val (.ref u_BuiltInCall_BuiltIn_IS_BLANK), .val (.int v73), .unset, .unset] [(.int (own_r3 v1 p1)), (.int (own_r2 p1 (1 : Int32) (1 : Int32)))])) t := by
          intro t kt
          show Steps p.tables e below (T238.setTop (mkF m 33 #[.val (.int p0), .val (.int p1), .val (.int p2), .val (.int v1), .val (.ref u_BuiltInCall_BuiltIn_IS_BLANK), .val (.int v73), .unset, .unset] [(.int (own_r3 v1 p1)), (.int (own_r2 p1 (1 : Int32) (1 : Int32)))])) _
          refine XS.icmpNo X238.here hx rfl (hb hby at_33) rfl (teq hc33_74).2 ?_
          show Steps p.tables e below (T238.setTop (mkF m 36 #[.val (.int p0), .val (.int p1), .val (.int p2), .val (.int v1), .val (.ref u_BuiltInCall_BuiltIn_IS_BLANK), .val (.int v73), .unset, .unset] [])) _
          refine XS.iconst X238.here hx rfl (hb hby at_36) ?_
          show Steps p.tables e below (T238.setTop (mkF m 37 #[.val (.int p0), .val (.int p1), .val (.int p2), .val (.int v1), .val (.ref u_BuiltInCall_BuiltIn_IS_BLANK), .val (.int v73), .unset, .unset] [(.int (1 : Int32))])) _
          refine XS.goto X238.here hx rfl (pc0 := 37) (pc' := 41) rfl (hb hby at_37) (by decide) (by decide) ?_
          exact kt
        refine own_arm hgo239 ?_
        exact own_armEnd X238 N238 e238 (by rw [hv75.trans (if_pos hc33_74)])
      · have hgo240 : ∀ t, Steps p.tables e below (T238.setTop (mkF m 41 #[.val (.int p0), .val (.int p1), .val (.int p2), .val (.int v1), .val (.ref u_BuiltInCall_BuiltIn_IS_BLANK), .val (.int v73), .unset, .unset] [(.int (0 : Int32))])) t → Steps p.tables e below (T238.setTop (mkF m 33 #[.val (.int p0), .val (.int p1), .val (.int p2), .val (.int v1), .val (.ref u_BuiltInCall_BuiltIn_IS_BLANK), .val (.int v73), .unset, .unset] [(.int (own_r3 v1 p1)), (.int (own_r2 p1 (1 : Int32) (1 : Int32)))])) t := by
          intro t kt
          show Steps p.tables e below (T238.setTop (mkF m 33 #[.val (.int p0), .val (.int p1), .val (.int p2), .val (.int v1), .val (.ref u_BuiltInCall_BuiltIn_IS_BLANK), .val (.int v73), .unset, .unset] [(.int (own_r3 v1 p1)), (.int (own_r2 p1 (1 : Int32) (1 : Int32)))])) _
          refine XS.icmpYes X238.here hx rfl (pc0 := 33) (pc' := 40) rfl (hb hby at_33) rfl (feq hc33_74).2 (by decide) (by decide) ?_
          show Steps p.tables e below (T238.setTop (mkF m 40 #[.val (.int p0), .val (.int p1), .val (.int p2), .val (.int v1), .val (.ref u_BuiltInCall_BuiltIn_IS_BLANK), .val (.int v73), .unset, .unset] [])) _
          refine XS.iconst X238.here hx rfl (hb hby at_40) ?_
          exact kt
        refine own_arm hgo240 ?_
        exact own_armEnd X238 N238 e238 (by rw [hv75.trans (if_neg hc33_74)]))
    obtain ⟨cq242, kq242, q242a, q242b, q242c⟩ := isOf hZ e241 E_u_BuiltInCall_BuiltIn_IS_BLANK
    obtain ⟨_, _, ⟨T242, L242, k242, n242⟩, -, X242, ⟨Lc242, hQ242, l242, y242, z242⟩, st242⟩ := X241.virtualBack hx (y := (⟨"com/example/muset/muset/sparql/BuiltInCall$BuiltIn", "takes", "(I)Z"⟩ : MethodName)) (z := (⟨"com/example/muset/muset/sparql/BuiltInCall$BuiltIn", "takes", "(I)Z"⟩ : MethodName)) hown (mvT hZ (hw _ (List.mem_of_getElem? (i := 8) rfl))) (mvT hZ (hw _ (List.mem_of_getElem? (i := 9) rfl))) (notFace_of_selects (args := #[]) (mvT hZ (hw _ (List.mem_of_getElem? (i := 11) rfl)))) (mvT hZ (hw _ (List.mem_of_getElem? (i := 11) rfl))) (mvT hZ (hw _ (List.mem_of_getElem? (i := 10) rfl))) (by decide) (backOf (W := 0) (rm2 l Z a0 hw [] u_BuiltInCall_BuiltIn_IS_BLANK v73 (1 : Int32) (1 : Int32) h0 n0 Z0 F_minArguments_u_BuiltInCall_BuiltIn_IS_BLANK F_maxArguments_u_BuiltInCall_BuiltIn_IS_BLANK) hZ (hw _ (List.mem_of_getElem? (i := 12) rfl)) (hw _ (List.mem_of_getElem? (i := 6) rfl)) (by decide) (by decide)) q242a q242c (g := (mkF m 47 #[.val (.int p0), .val (.int p1), .val (.int p2), .val (.int v1), .val (.ref u_BuiltInCall_BuiltIn_IS_BLANK), .val (.int v73), .val (.int v75), .unset] [(.int v73), (.ref u_BuiltInCall_BuiltIn_IS_BLANK)])) rfl (by rw [hml]; rfl) (Steps.refl _) (argsL := [(.int v73)]) (rest := []) (lenOf pd3 rfl) rfl (by show 2 * 0 + _ ≤ _; exact Nat.le_of_eq rfl) (hb hby at_47) (fun _ _ => ⟨rfl, e241, (by decide : 0 + 0 ≤ _), (by decide : 0 + 0 ≤ _)⟩)
    dsimp only [Pt.U, Pt.locs, Pt.cells, Pt.slots] at X242 l242 y242 z242 st242 hQ242
    subst l242 y242 z242
    obtain ⟨rfl, N242q, e242⟩ := hQ242
    have N242 := Fr.app N241 N242q
    obtain ⟨_, _, ⟨T243, L243, k243, n243⟩, -, X243, ⟨Lc243, hQ243, l243, y243, z243⟩, st243⟩ := Jvm.LawKit.callS X242 hx (y := (⟨"com/example/muset/muset/sparql/BuiltInTakesPinLaw", "expected", "(II)Z"⟩ : MethodName)) hown (mvT hZ (hw _ (List.mem_of_getElem? (i := 17) rfl))) (mvT hZ (hw _ (List.mem_of_getElem? (i := 18) rfl))) (mvT hZ (hw _ (List.mem_of_getElem? (i := 3) rfl))) (mvT hZ (hw _ (List.mem_of_getElem? (i := 19) rfl))) (by decide) (backOf (W := 1) (rm3 l Z a0 hw [] v1 v73 h0 n0 Z0 ) hZ (hw _ (List.mem_of_getElem? (i := 19) rfl)) (hw _ (List.mem_of_getElem? (i := 3) rfl)) (by decide) (by decide)) (g := (mkF m 53 #[.val (.int p0), .val (.int p1), .val (.int p2), .val (.int v1), .val (.ref u_BuiltInCall_BuiltIn_IS_BLANK), .val (.int v73), .val (.int v75), .unset] [(.int v73), (.int v1), (.int (own_r2 v73 (1 : Int32) (1 : Int32)))])) rfl (by rw [hml]; rfl) (argsL := [(.int v1), (.int v73)]) (rest := [(.int (own_r2 v73 (1 : Int32) (1 : Int32)))]) (lenOf pd4 rfl) rfl (by show 2 * 0 + _ ≤ _; exact Nat.le_of_eq rfl) (hb hby at_53) (fun _ _ => ⟨rfl, e242, (by decide : 0 + 0 ≤ _), (by decide : 0 + 0 ≤ _)⟩)
    dsimp only [Pt.U, Pt.locs, Pt.cells, Pt.slots] at X243 l243 y243 z243 st243 hQ243
    subst l243 y243 z243
    obtain ⟨rfl, N243q, e243⟩ := hQ243
    have N243 := Fr.app N242 N243q
    obtain ⟨v77, hv77⟩ : ∃ z : Int32, z = (if (own_r2 v73 (1 : Int32) (1 : Int32)) = (own_r3 v1 v73) then (1 : Int32) else (0 : Int32)) := ⟨_, rfl⟩
    obtain ⟨T246, lc246, X246, N246, e246, st246⟩ := own_mrg (n0 := n0) (h := h0) (g := (mkF m 56 #[.val (.int p0), .val (.int p1), .val (.int p2), .val (.int v1), .val (.ref u_BuiltInCall_BuiltIn_IS_BLANK), .val (.int v73), .val (.int v75), .unset] [(.int (own_r3 v1 v73)), (.int (own_r2 v73 (1 : Int32) (1 : Int32)))])) (g' := (mkF m 64 #[.val (.int p0), .val (.int p1), .val (.int p2), .val (.int v1), .val (.ref u_BuiltInCall_BuiltIn_IS_BLANK), .val (.int v73), .val (.int v75), .unset] [(.int v77)])) X243 (by
      by_cases hc56_76 : (own_r2 v73 (1 : Int32) (1 : Int32)) = (own_r3 v1 v73)
      · have hgo244 : ∀ t, Steps p.tables e below (T243.setTop (mkF m 64 #[.val (.int p0), .val (.int p1), .val (.int p2), .val (.int v1), .val (.ref u_BuiltInCall_BuiltIn_IS_BLANK), .val (.int v73), .val (.int v75), .unset] [(.int (1 : Int32))])) t → Steps p.tables e below (T243.setTop (mkF m 56 #[.val (.int p0), .val (.int p1), .val (.int p2), .val (.int v1), .val (.ref u_BuiltInCall_BuiltIn_IS_BLANK), .val (.int v73), .val (.int v75), .unset] [(.int (own_r3 v1 v73)), (.int (own_r2 v73 (1 : Int32) (1 : Int32)))])) t := by
          intro t kt
          show Steps p.tables e below (T243.setTop (mkF m 56 #[.val (.int p0), .val (.int p1), .val (.int p2), .val (.int v1), .val (.ref u_BuiltInCall_BuiltIn_IS_BLANK), .val (.int v73), .val (.int v75), .unset] [(.int (own_r3 v1 v73)), (.int (own_r2 v73 (1 : Int32) (1 : Int32)))])) _
          refine XS.icmpNo X243.here hx rfl (hb hby at_56) rfl (teq hc56_76).2 ?_
          show Steps p.tables e below (T243.setTop (mkF m 59 #[.val (.int p0), .val (.int p1), .val (.int p2), .val (.int v1), .val (.ref u_BuiltInCall_BuiltIn_IS_BLANK), .val (.int v73), .val (.int v75), .unset] [])) _
          refine XS.iconst X243.here hx rfl (hb hby at_59) ?_
          show Steps p.tables e below (T243.setTop (mkF m 60 #[.val (.int p0), .val (.int p1), .val (.int p2), .val (.int v1), .val (.ref u_BuiltInCall_BuiltIn_IS_BLANK), .val (.int v73), .val (.int v75), .unset] [(.int (1 : Int32))])) _
          refine XS.goto X243.here hx rfl (pc0 := 60) (pc' := 64) rfl (hb hby at_60) (by decide) (by decide) ?_
          exact kt
        refine own_arm hgo244 ?_
        exact own_armEnd X243 N243 e243 (by rw [hv77.trans (if_pos hc56_76)])
      · have hgo245 : ∀ t, Steps p.tables e below (T243.setTop (mkF m 64 #[.val (.int p0), .val (.int p1), .val (.int p2), .val (.int v1), .val (.ref u_BuiltInCall_BuiltIn_IS_BLANK), .val (.int v73), .val (.int v75), .unset] [(.int (0 : Int32))])) t → Steps p.tables e below (T243.setTop (mkF m 56 #[.val (.int p0), .val (.int p1), .val (.int p2), .val (.int v1), .val (.ref u_BuiltInCall_BuiltIn_IS_BLANK), .val (.int v73), .val (.int v75), .unset] [(.int (own_r3 v1 v73)), (.int (own_r2 v73 (1 : Int32) (1 : Int32)))])) t := by
          intro t kt
          show Steps p.tables e below (T243.setTop (mkF m 56 #[.val (.int p0), .val (.int p1), .val (.int p2), .val (.int v1), .val (.ref u_BuiltInCall_BuiltIn_IS_BLANK), .val (.int v73), .val (.int v75), .unset] [(.int (own_r3 v1 v73)), (.int (own_r2 v73 (1 : Int32) (1 : Int32)))])) _
          refine XS.icmpYes X243.here hx rfl (pc0 := 56) (pc' := 63) rfl (hb hby at_56) rfl (feq hc56_76).2 (by decide) (by decide) ?_
          show Steps p.tables e below (T243.setTop (mkF m 63 #[.val (.int p0), .val (.int p1), .val (.int p2), .val (.int v1), .val (.ref u_BuiltInCall_BuiltIn_IS_BLANK), .val (.int v73), .val (.int v75), .unset] [])) _
          refine XS.iconst X243.here hx rfl (hb hby at_63) ?_
          exact kt
        refine own_arm hgo245 ?_
        exact own_armEnd X243 N243 e243 (by rw [hv77.trans (if_neg hc56_76)]))
    obtain ⟨v80, hv80⟩ : ∃ z : Int32, z = (if v77 = (0 : Int32) then (0 : Int32) else (1 : Int32)) := ⟨_, rfl⟩
    obtain ⟨v81, hv81⟩ : ∃ z : Int32, z = (if v75 = (0 : Int32) then (0 : Int32) else v80) := ⟨_, rfl⟩
    obtain ⟨T252, lc252, X252, N252, e252, st252⟩ := own_mrg (n0 := n0) (h := h0) (g := (mkF m 68 #[.val (.int p0), .val (.int p1), .val (.int p2), .val (.int v1), .val (.ref u_BuiltInCall_BuiltIn_IS_BLANK), .val (.int v73), .val (.int v75), .val (.int v77)] [(.int v75)])) (g' := (mkF m 81 #[.val (.int p0), .val (.int p1), .val (.int p2), .val (.int v1), .val (.ref u_BuiltInCall_BuiltIn_IS_BLANK), .val (.int v73), .val (.int v75), .val (.int v77)] [(.int v81)])) X246 (by
      by_cases hc68_78 : v75 = (0 : Int32)
      · have hgo247 : ∀ t, Steps p.tables e below (T246.setTop (mkF m 81 #[.val (.int p0), .val (.int p1), .val (.int p2), .val (.int v1), .val (.ref u_BuiltInCall_BuiltIn_IS_BLANK), .val (.int v73), .val (.int v75), .val (.int v77)] [(.int (0 : Int32))])) t → Steps p.tables e below (T246.setTop (mkF m 68 #[.val (.int p0), .val (.int p1), .val (.int p2), .val (.int v1), .val (.ref u_BuiltInCall_BuiltIn_IS_BLANK), .val (.int v73), .val (.int v75), .val (.int v77)] [(.int v75)])) t := by
          intro t kt
          show Steps p.tables e below (T246.setTop (mkF m 68 #[.val (.int p0), .val (.int p1), .val (.int p2), .val (.int v1), .val (.ref u_BuiltInCall_BuiltIn_IS_BLANK), .val (.int v73), .val (.int v75), .val (.int v77)] [(.int v75)])) _
          refine XS.ifYes X246.here hx rfl (pc0 := 68) (pc' := 80) rfl (hb hby at_68) rfl ((if0 _ _).trans (teq hc68_78).1) (by decide) (by decide) ?_
          show Steps p.tables e below (T246.setTop (mkF m 80 #[.val (.int p0), .val (.int p1), .val (.int p2), .val (.int v1), .val (.ref u_BuiltInCall_BuiltIn_IS_BLANK), .val (.int v73), .val (.int v75), .val (.int v77)] [])) _
          refine XS.iconst X246.here hx rfl (hb hby at_80) ?_
          exact kt
        refine own_arm hgo247 ?_
        exact own_armEnd X246 N246 e246 (by rw [hv81.trans (if_pos hc68_78)])
      · obtain ⟨T250, lc250, X250, N250, e250, st250⟩ := own_mrg (n0 := n0) (h := h0) (g := (mkF m 73 #[.val (.int p0), .val (.int p1), .val (.int p2), .val (.int v1), .val (.ref u_BuiltInCall_BuiltIn_IS_BLANK), .val (.int v73), .val (.int v75), .val (.int v77)] [(.int v77)])) (g' := (mkF m 81 #[.val (.int p0), .val (.int p1), .val (.int p2), .val (.int v1), .val (.ref u_BuiltInCall_BuiltIn_IS_BLANK), .val (.int v73), .val (.int v75), .val (.int v77)] [(.int v80)])) X246 (by
          by_cases hc73_79 : v77 = (0 : Int32)
          · have hgo248 : ∀ t, Steps p.tables e below (T246.setTop (mkF m 81 #[.val (.int p0), .val (.int p1), .val (.int p2), .val (.int v1), .val (.ref u_BuiltInCall_BuiltIn_IS_BLANK), .val (.int v73), .val (.int v75), .val (.int v77)] [(.int (0 : Int32))])) t → Steps p.tables e below (T246.setTop (mkF m 73 #[.val (.int p0), .val (.int p1), .val (.int p2), .val (.int v1), .val (.ref u_BuiltInCall_BuiltIn_IS_BLANK), .val (.int v73), .val (.int v75), .val (.int v77)] [(.int v77)])) t := by
              intro t kt
              show Steps p.tables e below (T246.setTop (mkF m 73 #[.val (.int p0), .val (.int p1), .val (.int p2), .val (.int v1), .val (.ref u_BuiltInCall_BuiltIn_IS_BLANK), .val (.int v73), .val (.int v75), .val (.int v77)] [(.int v77)])) _
              refine XS.ifYes X246.here hx rfl (pc0 := 73) (pc' := 80) rfl (hb hby at_73) rfl ((if0 _ _).trans (teq hc73_79).1) (by decide) (by decide) ?_
              show Steps p.tables e below (T246.setTop (mkF m 80 #[.val (.int p0), .val (.int p1), .val (.int p2), .val (.int v1), .val (.ref u_BuiltInCall_BuiltIn_IS_BLANK), .val (.int v73), .val (.int v75), .val (.int v77)] [])) _
              refine XS.iconst X246.here hx rfl (hb hby at_80) ?_
              exact kt
            refine own_arm hgo248 ?_
            exact own_armEnd X246 N246 e246 (by rw [hv80.trans (if_pos hc73_79)])
          · have hgo249 : ∀ t, Steps p.tables e below (T246.setTop (mkF m 81 #[.val (.int p0), .val (.int p1), .val (.int p2), .val (.int v1), .val (.ref u_BuiltInCall_BuiltIn_IS_BLANK), .val (.int v73), .val (.int v75), .val (.int v77)] [(.int (1 : Int32))])) t → Steps p.tables e below (T246.setTop (mkF m 73 #[.val (.int p0), .val (.int p1), .val (.int p2), .val (.int v1), .val (.ref u_BuiltInCall_BuiltIn_IS_BLANK), .val (.int v73), .val (.int v75), .val (.int v77)] [(.int v77)])) t := by
              intro t kt
              show Steps p.tables e below (T246.setTop (mkF m 73 #[.val (.int p0), .val (.int p1), .val (.int p2), .val (.int v1), .val (.ref u_BuiltInCall_BuiltIn_IS_BLANK), .val (.int v73), .val (.int v75), .val (.int v77)] [(.int v77)])) _
              refine XS.ifNo X246.here hx rfl (hb hby at_73) rfl ((if0 _ _).trans (feq hc73_79).1) ?_
              show Steps p.tables e below (T246.setTop (mkF m 76 #[.val (.int p0), .val (.int p1), .val (.int p2), .val (.int v1), .val (.ref u_BuiltInCall_BuiltIn_IS_BLANK), .val (.int v73), .val (.int v75), .val (.int v77)] [])) _
              refine XS.iconst X246.here hx rfl (hb hby at_76) ?_
              show Steps p.tables e below (T246.setTop (mkF m 77 #[.val (.int p0), .val (.int p1), .val (.int p2), .val (.int v1), .val (.ref u_BuiltInCall_BuiltIn_IS_BLANK), .val (.int v73), .val (.int v75), .val (.int v77)] [(.int (1 : Int32))])) _
              refine XS.goto X246.here hx rfl (pc0 := 77) (pc' := 81) rfl (hb hby at_77) (by decide) (by decide) ?_
              exact kt
            refine own_arm hgo249 ?_
            exact own_armEnd X246 N246 e246 (by rw [hv80.trans (if_neg hc73_79)]))
        have hgo251 : ∀ t, Steps p.tables e below (T250.setTop (mkF m 81 #[.val (.int p0), .val (.int p1), .val (.int p2), .val (.int v1), .val (.ref u_BuiltInCall_BuiltIn_IS_BLANK), .val (.int v73), .val (.int v75), .val (.int v77)] [(.int v80)])) t → Steps p.tables e below (T246.setTop (mkF m 68 #[.val (.int p0), .val (.int p1), .val (.int p2), .val (.int v1), .val (.ref u_BuiltInCall_BuiltIn_IS_BLANK), .val (.int v73), .val (.int v75), .val (.int v77)] [(.int v75)])) t := by
          intro t kt
          show Steps p.tables e below (T246.setTop (mkF m 68 #[.val (.int p0), .val (.int p1), .val (.int p2), .val (.int v1), .val (.ref u_BuiltInCall_BuiltIn_IS_BLANK), .val (.int v73), .val (.int v75), .val (.int v77)] [(.int v75)])) _
          refine XS.ifNo X246.here hx rfl (hb hby at_68) rfl ((if0 _ _).trans (feq hc68_78).1) ?_
          show Steps p.tables e below (T246.setTop (mkF m 71 #[.val (.int p0), .val (.int p1), .val (.int p2), .val (.int v1), .val (.ref u_BuiltInCall_BuiltIn_IS_BLANK), .val (.int v73), .val (.int v75), .val (.int v77)] [])) _
          refine XS.iload X246.here hx rfl (hb hby at_71) rfl ?_
          show Steps p.tables e below (T246.setTop (mkF m 73 #[.val (.int p0), .val (.int p1), .val (.int p2), .val (.int v1), .val (.ref u_BuiltInCall_BuiltIn_IS_BLANK), .val (.int v73), .val (.int v75), .val (.int v77)] [(.int v77)])) _
          refine st250 _ ?_
          exact kt
        refine own_arm hgo251 ?_
        exact own_armEnd X250 N250 e250 (by rw [hv81.trans (if_neg hc68_78)]))
    have hgo253 : ∀ t, Steps p.tables e below (T252.setTop (mkF m 81 #[.val (.int p0), .val (.int p1), .val (.int p2), .val (.int v1), .val (.ref u_BuiltInCall_BuiltIn_IS_BLANK), .val (.int v73), .val (.int v75), .val (.int v77)] [(.int v81)])) t → Steps p.tables e below (s₁.setTop (mkF m 9 #[.val (.int p0), .val (.int p1), .val (.int p2), .val (.int v1), .unset, .unset, .unset, .unset] [(.int v1)])) t := by
      intro t kt
      show Steps p.tables e below (s₁.setTop (mkF m 9 #[.val (.int p0), .val (.int p1), .val (.int p2), .val (.int v1), .unset, .unset, .unset, .unset] [(.int v1)])) _
      refine st236 _ ?_
      show Steps p.tables e below (T236.setTop (mkF m 12 #[.val (.int p0), .val (.int p1), .val (.int p2), .val (.int v1), .unset, .unset, .unset, .unset] [(.ref u_BuiltInCall_BuiltIn_IS_BLANK)])) _
      refine XS.astore X236.here hx rfl (hb hby at_12) rfl rfl (l' := #[.val (.int p0), .val (.int p1), .val (.int p2), .val (.int v1), .val (.ref u_BuiltInCall_BuiltIn_IS_BLANK), .unset, .unset, .unset]) rfl ?_
      show Steps p.tables e below (T236.setTop (mkF m 14 #[.val (.int p0), .val (.int p1), .val (.int p2), .val (.int v1), .val (.ref u_BuiltInCall_BuiltIn_IS_BLANK), .unset, .unset, .unset] [])) _
      refine XS.iloadN X236.here hx rfl (hb hby at_14) rfl ?_
      show Steps p.tables e below (T236.setTop (mkF m 15 #[.val (.int p0), .val (.int p1), .val (.int p2), .val (.int v1), .val (.ref u_BuiltInCall_BuiltIn_IS_BLANK), .unset, .unset, .unset] [(.int p2)])) _
      refine XS.bipush X236.here hx rfl (hb hby at_15) ?_
      show Steps p.tables e below (T236.setTop (mkF m 17 #[.val (.int p0), .val (.int p1), .val (.int p2), .val (.int v1), .val (.ref u_BuiltInCall_BuiltIn_IS_BLANK), .unset, .unset, .unset] [(.int (7 : Int32)), (.int p2)])) _
      refine XS.iand X236.here hx rfl (hb hby at_17) rfl ?_
      show Steps p.tables e below (T236.setTop (mkF m 18 #[.val (.int p0), .val (.int p1), .val (.int p2), .val (.int v1), .val (.ref u_BuiltInCall_BuiltIn_IS_BLANK), .unset, .unset, .unset] [(.int (p2 &&& (7 : Int32)))])) _
      refine XS.iconst X236.here hx rfl (hb hby at_18) ?_
      show Steps p.tables e below (T236.setTop (mkF m 19 #[.val (.int p0), .val (.int p1), .val (.int p2), .val (.int v1), .val (.ref u_BuiltInCall_BuiltIn_IS_BLANK), .unset, .unset, .unset] [(.int (2 : Int32)), (.int (p2 &&& (7 : Int32)))])) _
      refine XS.isub X236.here hx rfl (hb hby at_19) rfl ?_
      show Steps p.tables e below (T236.setTop (mkF m 20 #[.val (.int p0), .val (.int p1), .val (.int p2), .val (.int v1), .val (.ref u_BuiltInCall_BuiltIn_IS_BLANK), .unset, .unset, .unset] [(.int ((p2 &&& (7 : Int32)) - (2 : Int32)))])) _
      rw [← hv73]
      show Steps p.tables e below (T236.setTop (mkF m 20 #[.val (.int p0), .val (.int p1), .val (.int p2), .val (.int v1), .val (.ref u_BuiltInCall_BuiltIn_IS_BLANK), .unset, .unset, .unset] [(.int v73)])) _
      refine XS.istore X236.here hx rfl (hb hby at_20) rfl (l' := #[.val (.int p0), .val (.int p1), .val (.int p2), .val (.int v1), .val (.ref u_BuiltInCall_BuiltIn_IS_BLANK), .val (.int v73), .unset, .unset]) rfl ?_
      show Steps p.tables e below (T236.setTop (mkF m 22 #[.val (.int p0), .val (.int p1), .val (.int p2), .val (.int v1), .val (.ref u_BuiltInCall_BuiltIn_IS_BLANK), .val (.int v73), .unset, .unset] [])) _
      refine XS.aload X236.here hx rfl (hb hby at_22) rfl rfl ?_
      show Steps p.tables e below (T236.setTop (mkF m 24 #[.val (.int p0), .val (.int p1), .val (.int p2), .val (.int v1), .val (.ref u_BuiltInCall_BuiltIn_IS_BLANK), .val (.int v73), .unset, .unset] [(.ref u_BuiltInCall_BuiltIn_IS_BLANK)])) _
      refine XS.iloadN X236.here hx rfl (hb hby at_24) rfl ?_
      show Steps p.tables e below (T236.setTop (mkF m 25 #[.val (.int p0), .val (.int p1), .val (.int p2), .val (.int v1), .val (.ref u_BuiltInCall_BuiltIn_IS_BLANK), .val (.int v73), .unset, .unset] [(.int p1), (.ref u_BuiltInCall_BuiltIn_IS_BLANK)])) _
      refine st237.trans ?_
      show Steps p.tables e below (T237.setTop (mkF m 28 #[.val (.int p0), .val (.int p1), .val (.int p2), .val (.int v1), .val (.ref u_BuiltInCall_BuiltIn_IS_BLANK), .val (.int v73), .unset, .unset] [(.int (own_r2 p1 (1 : Int32) (1 : Int32)))])) _
      refine XS.iloadN X237.here hx rfl (hb hby at_28) rfl ?_
      show Steps p.tables e below (T237.setTop (mkF m 29 #[.val (.int p0), .val (.int p1), .val (.int p2), .val (.int v1), .val (.ref u_BuiltInCall_BuiltIn_IS_BLANK), .val (.int v73), .unset, .unset] [(.int v1), (.int (own_r2 p1 (1 : Int32) (1 : Int32)))])) _
      refine XS.iloadN X237.here hx rfl (hb hby at_29) rfl ?_
      show Steps p.tables e below (T237.setTop (mkF m 30 #[.val (.int p0), .val (.int p1), .val (.int p2), .val (.int v1), .val (.ref u_BuiltInCall_BuiltIn_IS_BLANK), .val (.int v73), .unset, .unset] [(.int p1), (.int v1), (.int (own_r2 p1 (1 : Int32) (1 : Int32)))])) _
      refine st238 _ ?_
      show Steps p.tables e below (T238.setTop (mkF m 33 #[.val (.int p0), .val (.int p1), .val (.int p2), .val (.int v1), .val (.ref u_BuiltInCall_BuiltIn_IS_BLANK), .val (.int v73), .unset, .unset] [(.int (own_r3 v1 p1)), (.int (own_r2 p1 (1 : Int32) (1 : Int32)))])) _
      refine st241 _ ?_
      show Steps p.tables e below (T241.setTop (mkF m 41 #[.val (.int p0), .val (.int p1), .val (.int p2), .val (.int v1), .val (.ref u_BuiltInCall_BuiltIn_IS_BLANK), .val (.int v73), .unset, .unset] [(.int v75)])) _
      refine XS.istore X241.here hx rfl (hb hby at_41) rfl (l' := #[.val (.int p0), .val (.int p1), .val (.int p2), .val (.int v1), .val (.ref u_BuiltInCall_BuiltIn_IS_BLANK), .val (.int v73), .val (.int v75), .unset]) rfl ?_
      show Steps p.tables e below (T241.setTop (mkF m 43 #[.val (.int p0), .val (.int p1), .val (.int p2), .val (.int v1), .val (.ref u_BuiltInCall_BuiltIn_IS_BLANK), .val (.int v73), .val (.int v75), .unset] [])) _
      refine XS.aload X241.here hx rfl (hb hby at_43) rfl rfl ?_
      show Steps p.tables e below (T241.setTop (mkF m 45 #[.val (.int p0), .val (.int p1), .val (.int p2), .val (.int v1), .val (.ref u_BuiltInCall_BuiltIn_IS_BLANK), .val (.int v73), .val (.int v75), .unset] [(.ref u_BuiltInCall_BuiltIn_IS_BLANK)])) _
      refine XS.iload X241.here hx rfl (hb hby at_45) rfl ?_
      show Steps p.tables e below (T241.setTop (mkF m 47 #[.val (.int p0), .val (.int p1), .val (.int p2), .val (.int v1), .val (.ref u_BuiltInCall_BuiltIn_IS_BLANK), .val (.int v73), .val (.int v75), .unset] [(.int v73), (.ref u_BuiltInCall_BuiltIn_IS_BLANK)])) _
      refine st242.trans ?_
      show Steps p.tables e below (T242.setTop (mkF m 50 #[.val (.int p0), .val (.int p1), .val (.int p2), .val (.int v1), .val (.ref u_BuiltInCall_BuiltIn_IS_BLANK), .val (.int v73), .val (.int v75), .unset] [(.int (own_r2 v73 (1 : Int32) (1 : Int32)))])) _
      refine XS.iloadN X242.here hx rfl (hb hby at_50) rfl ?_
      show Steps p.tables e below (T242.setTop (mkF m 51 #[.val (.int p0), .val (.int p1), .val (.int p2), .val (.int v1), .val (.ref u_BuiltInCall_BuiltIn_IS_BLANK), .val (.int v73), .val (.int v75), .unset] [(.int v1), (.int (own_r2 v73 (1 : Int32) (1 : Int32)))])) _
      refine XS.iload X242.here hx rfl (hb hby at_51) rfl ?_
      show Steps p.tables e below (T242.setTop (mkF m 53 #[.val (.int p0), .val (.int p1), .val (.int p2), .val (.int v1), .val (.ref u_BuiltInCall_BuiltIn_IS_BLANK), .val (.int v73), .val (.int v75), .unset] [(.int v73), (.int v1), (.int (own_r2 v73 (1 : Int32) (1 : Int32)))])) _
      refine st243 _ ?_
      show Steps p.tables e below (T243.setTop (mkF m 56 #[.val (.int p0), .val (.int p1), .val (.int p2), .val (.int v1), .val (.ref u_BuiltInCall_BuiltIn_IS_BLANK), .val (.int v73), .val (.int v75), .unset] [(.int (own_r3 v1 v73)), (.int (own_r2 v73 (1 : Int32) (1 : Int32)))])) _
      refine st246 _ ?_
      show Steps p.tables e below (T246.setTop (mkF m 64 #[.val (.int p0), .val (.int p1), .val (.int p2), .val (.int v1), .val (.ref u_BuiltInCall_BuiltIn_IS_BLANK), .val (.int v73), .val (.int v75), .unset] [(.int v77)])) _
      refine XS.istore X246.here hx rfl (hb hby at_64) rfl (l' := #[.val (.int p0), .val (.int p1), .val (.int p2), .val (.int v1), .val (.ref u_BuiltInCall_BuiltIn_IS_BLANK), .val (.int v73), .val (.int v75), .val (.int v77)]) rfl ?_
      show Steps p.tables e below (T246.setTop (mkF m 66 #[.val (.int p0), .val (.int p1), .val (.int p2), .val (.int v1), .val (.ref u_BuiltInCall_BuiltIn_IS_BLANK), .val (.int v73), .val (.int v75), .val (.int v77)] [])) _
      refine XS.iload X246.here hx rfl (hb hby at_66) rfl ?_
      show Steps p.tables e below (T246.setTop (mkF m 68 #[.val (.int p0), .val (.int p1), .val (.int p2), .val (.int v1), .val (.ref u_BuiltInCall_BuiltIn_IS_BLANK), .val (.int v73), .val (.int v75), .val (.int v77)] [(.int v75)])) _
      refine st252 _ ?_
      exact kt
    refine own_go hgo253 ?_
    have hz254 : v81 = 1 := own_leaf7 (p0 := p0) (p1 := p1) (p2 := p2) (u_BuiltInCall_BuiltIn_STR := u_BuiltInCall_BuiltIn_STR) (u_BuiltInCall_BuiltIn_LANG := u_BuiltInCall_BuiltIn_LANG) (u_BuiltInCall_BuiltIn_SAME_TERM := u_BuiltInCall_BuiltIn_SAME_TERM) (u_BuiltInCall_BuiltIn_IS_IRI := u_BuiltInCall_BuiltIn_IS_IRI) (u_BuiltInCall_BuiltIn_IS_LITERAL := u_BuiltInCall_BuiltIn_IS_LITERAL) (u_BuiltInCall_BuiltIn_DATATYPE := u_BuiltInCall_BuiltIn_DATATYPE) (u_BuiltInCall_BuiltIn_IS_URI := u_BuiltInCall_BuiltIn_IS_URI) (u_BuiltInCall_BuiltIn_IS_BLANK := u_BuiltInCall_BuiltIn_IS_BLANK) (u_BuiltInCall_BuiltIn_REGEX := u_BuiltInCall_BuiltIn_REGEX) (u_BuiltInCall_BuiltIn_LANG_MATCHES := u_BuiltInCall_BuiltIn_LANG_MATCHES) hv1 hv73 hv75 hv77 hv80 hv81 hs9_2 hs9_12 hs9_22 hs9_32 hs9_42 hs9_52 hs9_62 hs9_72
    exact own_retZ X252 hx Bd.returns Bd.notSynchronized (hb hby at_81) (by decide) (by decide) (Or.inr hz254) ⟨by rw [hz254], N252⟩
  by_cases hs9_82 : v1 = (8 : Int32)
  · obtain ⟨_, _, ⟨T255, L255, k255, n255⟩, -, X255, ⟨Lc255, hQ255, l255, y255, z255⟩, st255⟩ := Jvm.LawKit.callS X0 hx (y := (⟨"com/example/muset/muset/sparql/BuiltInTakesPinLaw", "pick", "(I)Lcom/example/muset/muset/sparql/BuiltInCall$BuiltIn;"⟩ : MethodName)) hown (mvT hZ (hw _ (List.mem_of_getElem? (i := 1) rfl))) (mvT hZ (hw _ (List.mem_of_getElem? (i := 2) rfl))) (mvT hZ (hw _ (List.mem_of_getElem? (i := 3) rfl))) (mvT hZ (hw _ (List.mem_of_getElem? (i := 4) rfl))) (by decide) (backOf (W := 0) (rm1_8 l Z a0 hw [] v1 u_BuiltInCall_BuiltIn_IS_LITERAL h0 n0 Z0 (by first | assumption | decide : ¬ (v1 = (0 : Int32))) (by first | assumption | decide : ¬ (v1 = (1 : Int32))) (by first | assumption | decide : ¬ (v1 = (2 : Int32))) (by first | assumption | decide : ¬ (v1 = (3 : Int32))) (by first | assumption | decide : ¬ (v1 = (4 : Int32))) (by first | assumption | decide : ¬ (v1 = (5 : Int32))) (by first | assumption | decide : ¬ (v1 = (6 : Int32))) (by first | assumption | decide : ¬ (v1 = (7 : Int32))) (by first | assumption | decide : v1 = (8 : Int32)) S_u_BuiltInCall_BuiltIn_IS_LITERAL) hZ (hw _ (List.mem_of_getElem? (i := 4) rfl)) (hw _ (List.mem_of_getElem? (i := 3) rfl)) (by decide) (by decide)) (g := (mkF m 9 #[.val (.int p0), .val (.int p1), .val (.int p2), .val (.int v1), .unset, .unset, .unset, .unset] [(.int v1)])) rfl (by rw [hml]; rfl) (argsL := [(.int v1)]) (rest := []) (lenOf pd2 rfl) rfl (by show 2 * 0 + _ ≤ _; exact Nat.le_of_eq rfl) (hb hby at_9) (fun _ _ => ⟨rfl, e0, (by decide : 0 + 0 ≤ _), (by decide : 0 + 0 ≤ _)⟩)
    dsimp only [Pt.U, Pt.locs, Pt.cells, Pt.slots] at X255 l255 y255 z255 st255 hQ255
    subst l255 y255 z255
    obtain ⟨rfl, N255q, e255⟩ := hQ255
    have N255 := Fr.app N0 N255q
    obtain ⟨v83, hv83⟩ : ∃ z : Int32, z = ((p2 &&& (7 : Int32)) - (2 : Int32)) := ⟨_, rfl⟩
    obtain ⟨cq256, kq256, q256a, q256b, q256c⟩ := isOf hZ e255 E_u_BuiltInCall_BuiltIn_IS_LITERAL
    obtain ⟨_, _, ⟨T256, L256, k256, n256⟩, -, X256, ⟨Lc256, hQ256, l256, y256, z256⟩, st256⟩ := X255.virtualBack hx (y := (⟨"com/example/muset/muset/sparql/BuiltInCall$BuiltIn", "takes", "(I)Z"⟩ : MethodName)) (z := (⟨"com/example/muset/muset/sparql/BuiltInCall$BuiltIn", "takes", "(I)Z"⟩ : MethodName)) hown (mvT hZ (hw _ (List.mem_of_getElem? (i := 8) rfl))) (mvT hZ (hw _ (List.mem_of_getElem? (i := 9) rfl))) (notFace_of_selects (args := #[]) (mvT hZ (hw _ (List.mem_of_getElem? (i := 11) rfl)))) (mvT hZ (hw _ (List.mem_of_getElem? (i := 11) rfl))) (mvT hZ (hw _ (List.mem_of_getElem? (i := 10) rfl))) (by decide) (backOf (W := 0) (rm2 l Z a0 hw [] u_BuiltInCall_BuiltIn_IS_LITERAL p1 (1 : Int32) (1 : Int32) h0 n0 Z0 F_minArguments_u_BuiltInCall_BuiltIn_IS_LITERAL F_maxArguments_u_BuiltInCall_BuiltIn_IS_LITERAL) hZ (hw _ (List.mem_of_getElem? (i := 12) rfl)) (hw _ (List.mem_of_getElem? (i := 6) rfl)) (by decide) (by decide)) q256a q256c (g := (mkF m 25 #[.val (.int p0), .val (.int p1), .val (.int p2), .val (.int v1), .val (.ref u_BuiltInCall_BuiltIn_IS_LITERAL), .val (.int v83), .unset, .unset] [(.int p1), (.ref u_BuiltInCall_BuiltIn_IS_LITERAL)])) rfl (by rw [hml]; rfl) (Steps.refl _) (argsL := [(.int p1)]) (rest := []) (lenOf pd3 rfl) rfl (by show 2 * 0 + _ ≤ _; exact Nat.le_of_eq rfl) (hb hby at_25) (fun _ _ => ⟨rfl, e255, (by decide : 0 + 0 ≤ _), (by decide : 0 + 0 ≤ _)⟩)
    dsimp only [Pt.U, Pt.locs, Pt.cells, Pt.slots] at X256 l256 y256 z256 st256 hQ256
    subst l256 y256 z256
    obtain ⟨rfl, N256q, e256⟩ := hQ256
    have N256 := Fr.app N255 N256q
    obtain ⟨_, _, ⟨T257, L257, k257, n257⟩, -, X257, ⟨Lc257, hQ257, l257, y257, z257⟩, st257⟩ := Jvm.LawKit.callS X256 hx (y := (⟨"com/example/muset/muset/sparql/BuiltInTakesPinLaw", "expected", "(II)Z"⟩ : MethodName)) hown (mvT hZ (hw _ (List.mem_of_getElem? (i := 17) rfl))) (mvT hZ (hw _ (List.mem_of_getElem? (i := 18) rfl))) (mvT hZ (hw _ (List.mem_of_getElem? (i := 3) rfl))) (mvT hZ (hw _ (List.mem_of_getElem? (i := 19) rfl))) (by decide) (backOf (W := 1) (rm3 l Z a0 hw [] v1 p1 h0 n0 Z0 ) hZ (hw _ (List.mem_of_getElem? (i := 19) rfl)) (hw _ (List.mem_of_getElem? (i := 3) rfl)) (by decide) (by decide)) (g := (mkF m 30 #[.val (.int p0), .val (.int p1), .val (.int p2), .val (.int v1), .val (.ref u_BuiltInCall_BuiltIn_IS_LITERAL), .val (.int v83), .unset, .unset] [(.int p1), (.int v1), (.int (own_r2 p1 (1 : Int32) (1 : Int32)))])) rfl (by rw [hml]; rfl) (argsL := [(.int v1), (.int p1)]) (rest := [(.int (own_r2 p1 (1 : Int32) (1 : Int32)))]) (lenOf pd4 rfl) rfl (by show 2 * 0 + _ ≤ _; exact Nat.le_of_eq rfl) (hb hby at_30) (fun _ _ => ⟨rfl, e256, (by decide : 0 + 0 ≤ _), (by decide : 0 + 0 ≤ _)⟩)
    dsimp only [Pt.U, Pt.locs, Pt.cells, Pt.slots] at X257 l257 y257 z257 st257 hQ257
    subst l257 y257 z257
    obtain ⟨rfl, N257q, e257⟩ := hQ257
    have N257 := Fr.app N256 N257q
    obtain ⟨v85, hv85⟩ : ∃ z : Int32, z = (if (own_r2 p1 (1 : Int32) (1 : Int32)) = (own_r3 v1 p1) then (1 : Int32) else (0 : Int32)) := ⟨_, rfl⟩
    obtain ⟨T260, lc260, X260, N260, e260, st260⟩ := own_mrg (n0 := n0) (h := h0) (g := (mkF m 33 #[.val (.int p0), .val (.int p1), .val (.int p2), .val (.int v1), .val (.ref u_BuiltInCall_BuiltIn_IS_LITERAL), .val (.int v83), .unset, .unset] [(.int (own_r3 v1 p1)), (.int (own_r2 p1 (1 : Int32) (1 : Int32)))])) (g' := (mkF m 41 #[.val (.int p0), .val (.int p1), .val (.int p2), .val (.int v1), .val (.ref u_BuiltInCall_BuiltIn_IS_LITERAL), .val (.int v83), .unset, .unset] [(.int v85)])) X257 (by
      by_cases hc33_84 : (own_r2 p1 (1 : Int32) (1 : Int32)) = (own_r3 v1 p1)
      · have hgo258 : ∀ t, Steps p.tables e below (T257.setTop (mkF m 41 #[.val (.int p0), .val (.int p1), .val (.int p2), .val (.int v1), .val (.ref u_BuiltInCall_BuiltIn_IS_LITERAL), .val (.int v83), .unset, .unset] [(.int (1 : Int32))])) t → Steps p.tables e below (T257.setTop (mkF m 33 #[.val (.int p0), .val (.int p1), .val (.int p2), .val (.int v1), .val (.ref u_BuiltInCall_BuiltIn_IS_LITERAL), .val (.int v83), .unset, .unset] [(.int (own_r3 v1 p1)), (.int (own_r2 p1 (1 : Int32) (1 : Int32)))])) t := by
          intro t kt
          show Steps p.tables e below (T257.setTop (mkF m 33 #[.val (.int p0), .val (.int p1), .val (.int p2), .val (.int v1), .val (.ref u_BuiltInCall_BuiltIn_IS_LITERAL), .val (.int v83), .unset, .unset] [(.int (own_r3 v1 p1)), (.int (own_r2 p1 (1 : Int32) (1 : Int32)))])) _
          refine XS.icmpNo X257.here hx rfl (hb hby at_33) rfl (teq hc33_84).2 ?_
          show Steps p.tables e below (T257.setTop (mkF m 36 #[.val (.int p0), .val (.int p1), .val (.int p2), .val (.int v1), .val (.ref u_BuiltInCall_BuiltIn_IS_LITERAL), .val (.int v83), .unset, .unset] [])) _
          refine XS.iconst X257.here hx rfl (hb hby at_36) ?_
          show Steps p.tables e below (T257.setTop (mkF m 37 #[.val (.int p0), .val (.int p1), .val (.int p2), .val (.int v1), .val (.ref u_BuiltInCall_BuiltIn_IS_LITERAL), .val (.int v83), .unset, .unset] [(.int (1 : Int32))])) _
          refine XS.goto X257.here hx rfl (pc0 := 37) (pc' := 41) rfl (hb hby at_37) (by decide) (by decide) ?_
          exact kt
        refine own_arm hgo258 ?_
        exact own_armEnd X257 N257 e257 (by rw [hv85.trans (if_pos hc33_84)])
      · have hgo259 : ∀ t, Steps p.tables e below (T257.setTop (mkF m 41 #[.val (.int p0), .val (.int p1), .val (.int p2), .val (.int v1), .val (.ref u_BuiltInCall_BuiltIn_IS_LITERAL), .val (.int v83), .unset, .unset] [(.int (0 : Int32))])) t → Steps p.tables e below (T257.setTop (mkF m 33 #[.val (.int p0), .val (.int p1), .val (.int p2), .val (.int v1), .val (.ref u_BuiltInCall_BuiltIn_IS_LITERAL), .val (.int v83), .unset, .unset] [(.int (own_r3 v1 p1)), (.int (own_r2 p1 (1 : Int32) (1 : Int32)))])) t := by
          intro t kt
          show Steps p.tables e below (T257.setTop (mkF m 33 #[.val (.int p0), .val (.int p1), .val (.int p2), .val (.int v1), .val (.ref u_BuiltInCall_BuiltIn_IS_LITERAL), .val (.int v83), .unset, .unset] [(.int (own_r3 v1 p1)), (.int (own_r2 p1 (1 : Int32) (1 : Int32)))])) _
          refine XS.icmpYes X257.here hx rfl (pc0 := 33) (pc' := 40) rfl (hb hby at_33) rfl (feq hc33_84).2 (by decide) (by decide) ?_
          show Steps p.tables e below (T257.setTop (mkF m 40 #[.val (.int p0), .val (.int p1), .val (.int p2), .val (.int v1), .val (.ref u_BuiltInCall_BuiltIn_IS_LITERAL), .val (.int v83), .unset, .unset] [])) _
          refine XS.iconst X257.here hx rfl (hb hby at_40) ?_
          exact kt
        refine own_arm hgo259 ?_
        exact own_armEnd X257 N257 e257 (by rw [hv85.trans (if_neg hc33_84)]))
    obtain ⟨cq261, kq261, q261a, q261b, q261c⟩ := isOf hZ e260 E_u_BuiltInCall_BuiltIn_IS_LITERAL
    obtain ⟨_, _, ⟨T261, L261, k261, n261⟩, -, X261, ⟨Lc261, hQ261, l261, y261, z261⟩, st261⟩ := X260.virtualBack hx (y := (⟨"com/example/muset/muset/sparql/BuiltInCall$BuiltIn", "takes", "(I)Z"⟩ : MethodName)) (z := (⟨"com/example/muset/muset/sparql/BuiltInCall$BuiltIn", "takes", "(I)Z"⟩ : MethodName)) hown (mvT hZ (hw _ (List.mem_of_getElem? (i := 8) rfl))) (mvT hZ (hw _ (List.mem_of_getElem? (i := 9) rfl))) (notFace_of_selects (args := #[]) (mvT hZ (hw _ (List.mem_of_getElem? (i := 11) rfl)))) (mvT hZ (hw _ (List.mem_of_getElem? (i := 11) rfl))) (mvT hZ (hw _ (List.mem_of_getElem? (i := 10) rfl))) (by decide) (backOf (W := 0) (rm2 l Z a0 hw [] u_BuiltInCall_BuiltIn_IS_LITERAL v83 (1 : Int32) (1 : Int32) h0 n0 Z0 F_minArguments_u_BuiltInCall_BuiltIn_IS_LITERAL F_maxArguments_u_BuiltInCall_BuiltIn_IS_LITERAL) hZ (hw _ (List.mem_of_getElem? (i := 12) rfl)) (hw _ (List.mem_of_getElem? (i := 6) rfl)) (by decide) (by decide)) q261a q261c (g := (mkF m 47 #[.val (.int p0), .val (.int p1), .val (.int p2), .val (.int v1), .val (.ref u_BuiltInCall_BuiltIn_IS_LITERAL), .val (.int v83), .val (.int v85), .unset] [(.int v83), (.ref u_BuiltInCall_BuiltIn_IS_LITERAL)])) rfl (by rw [hml]; rfl) (Steps.refl _) (argsL := [(.int v83)]) (rest := []) (lenOf pd3 rfl) rfl (by show 2 * 0 + _ ≤ _; exact Nat.le_of_eq rfl) (hb hby at_47) (fun _ _ => ⟨rfl, e260, (by decide : 0 + 0 ≤ _), (by decide : 0 + 0 ≤ _)⟩)
    dsimp only [Pt.U, Pt.locs, Pt.cells, Pt.slots] at X261 l261 y261 z261 st261 hQ261
    subst l261 y261 z261
    obtain ⟨rfl, N261q, e261⟩ := hQ261
    have N261 := Fr.app N260 N261q
    obtain ⟨_, _, ⟨T262, L262, k262, n262⟩, -, X262, ⟨Lc262, hQ262, l262, y262, z262⟩, st262⟩ := Jvm.LawKit.callS X261 hx (y := (⟨"com/example/muset/muset/sparql/BuiltInTakesPinLaw", "expected", "(II)Z"⟩ : MethodName)) hown (mvT hZ (hw _ (List.mem_of_getElem? (i := 17) rfl))) (mvT hZ (hw _ (List.mem_of_getElem? (i := 18) rfl))) (mvT hZ (hw _ (List.mem_of_getElem? (i := 3) rfl))) (mvT hZ (hw _ (List.mem_of_getElem? (i := 19) rfl))) (by decide) (backOf (W := 1) (rm3 l Z a0 hw [] v1 v83 h0 n0 Z0 ) hZ (hw _ (List.mem_of_getElem? (i := 19) rfl)) (hw _ (List.mem_of_getElem? (i := 3) rfl)) (by decide) (by decide)) (g := (mkF m 53 #[.val (.int p0), .val (.int p1), .val (.int p2), .val (.int v1), .val (.ref u_BuiltInCall_BuiltIn_IS_LITERAL), .val (.int v83), .val (.int v85), .unset] [(.int v83), (.int v1), (.int (own_r2 v83 (1 : Int32) (1 : Int32)))])) rfl (by rw [hml]; rfl) (argsL := [(.int v1), (.int v83)]) (rest := [(.int (own_r2 v83 (1 : Int32) (1 : Int32)))]) (lenOf pd4 rfl) rfl (by show 2 * 0 + _ ≤ _; exact Nat.le_of_eq rfl) (hb hby at_53) (fun _ _ => ⟨rfl, e261, (by decide : 0 + 0 ≤ _), (by decide : 0 + 0 ≤ _)⟩)
    dsimp only [Pt.U, Pt.locs, Pt.cells, Pt.slots] at X262 l262 y262 z262 st262 hQ262
    subst l262 y262 z262
    obtain ⟨rfl, N262q, e262⟩ := hQ262
    have N262 := Fr.app N261 N262q
    obtain ⟨v87, hv87⟩ : ∃ z : Int32, z = (if (own_r2 v83 (1 : Int32) (1 : Int32)) = (own_r3 v1 v83) then (1 : Int32) else (0 : Int32)) := ⟨_, rfl⟩
    obtain ⟨T265, lc265, X265, N265, e265, st265⟩ := own_mrg (n0 := n0) (h := h0) (g := (mkF m 56 #[.val (.int p0), .val (.int p1), .val (.int p2), .val (.int v1), .val (.ref u_BuiltInCall_BuiltIn_IS_LITERAL), .val (.int v83), .val (.int v85), .unset] [(.int (own_r3 v1 v83)), (.int (own_r2 v83 (1 : Int32) (1 : Int32)))])) (g' := (mkF m 64 #[.val (.int p0), .val (.int p1), .val (.int p2), .val (.int v1), .val (.ref u_BuiltInCall_BuiltIn_IS_LITERAL), .val (.int v83), .val (.int v85), .unset] [(.int v87)])) X262 (by
      by_cases hc56_86 : (own_r2 v83 (1 : Int32) (1 : Int32)) = (own_r3 v1 v83)
      · have hgo263 : ∀ t, Steps p.tables e below (T262.setTop (mkF m 64 #[.val (.int p0), .val (.int p1), .val (.int p2), .val (.int v1), .val (.ref u_BuiltInCall_BuiltIn_IS_LITERAL), .val (.int v83), .val (.int v85), .unset] [(.int (1 : Int32))])) t → Steps p.tables e below (T262.setTop (mkF m 56 #[.val (.int p0), .val (.int p1), .val (.int p2), .val (.int v1), .val (.ref u_BuiltInCall_BuiltIn_IS_LITERAL), .val (.int v83), .val (.int v85), .unset] [(.int (own_r3 v1 v83)), (.int (own_r2 v83 (1 : Int32) (1 : Int32)))])) t := by
          intro t kt
          show Steps p.tables e below (T262.setTop (mkF m 56 #[.val (.int p0), .val (.int p1), .val (.int p2), .val (.int v1), .val (.ref u_BuiltInCall_BuiltIn_IS_LITERAL), .val (.int v83), .val (.int v85), .unset] [(.int (own_r3 v1 v83)), (.int (own_r2 v83 (1 : Int32) (1 : Int32)))])) _
          refine XS.icmpNo X262.here hx rfl (hb hby at_56) rfl (teq hc56_86).2 ?_
          show Steps p.tables e below (T262.setTop (mkF m 59 #[.val (.int p0), .val (.int p1), .val (.int p2), .val (.int v1), .val (.ref u_BuiltInCall_BuiltIn_IS_LITERAL), .val (.int v83), .val (.int v85), .unset] [])) _
          refine XS.iconst X262.here hx rfl (hb hby at_59) ?_
          show Steps p.tables e below (T262.setTop (mkF m 60 #[.val (.int p0), .val (.int p1), .val (.int p2), .val (.int v1), .val (.ref u_BuiltInCall_BuiltIn_IS_LITERAL), .val (.int v83), .val (.int v85), .unset] [(.int (1 : Int32))])) _
          refine XS.goto X262.here hx rfl (pc0 := 60) (pc' := 64) rfl (hb hby at_60) (by decide) (by decide) ?_
          exact kt
        refine own_arm hgo263 ?_
        exact own_armEnd X262 N262 e262 (by rw [hv87.trans (if_pos hc56_86)])
      · have hgo264 : ∀ t, Steps p.tables e below (T262.setTop (mkF m 64 #[.val (.int p0), .val (.int p1), .val (.int p2), .val (.int v1), .val (.ref u_BuiltInCall_BuiltIn_IS_LITERAL), .val (.int v83), .val (.int v85), .unset] [(.int (0 : Int32))])) t → Steps p.tables e below (T262.setTop (mkF m 56 #[.val (.int p0), .val (.int p1), .val (.int p2), .val (.int v1), .val (.ref u_BuiltInCall_BuiltIn_IS_LITERAL), .val (.int v83), .val (.int v85), .unset] [(.int (own_r3 v1 v83)), (.int (own_r2 v83 (1 : Int32) (1 : Int32)))])) t := by
          intro t kt
          show Steps p.tables e below (T262.setTop (mkF m 56 #[.val (.int p0), .val (.int p1), .val (.int p2), .val (.int v1), .val (.ref u_BuiltInCall_BuiltIn_IS_LITERAL), .val (.int v83), .val (.int v85), .unset] [(.int (own_r3 v1 v83)), (.int (own_r2 v83 (1 : Int32) (1 : Int32)))])) _
          refine XS.icmpYes X262.here hx rfl (pc0 := 56) (pc' := 63) rfl (hb hby at_56) rfl (feq hc56_86).2 (by decide) (by decide) ?_
          show Steps p.tables e below (T262.setTop (mkF m 63 #[.val (.int p0), .val (.int p1), .val (.int p2), .val (.int v1), .val (.ref u_BuiltInCall_BuiltIn_IS_LITERAL), .val (.int v83), .val (.int v85), .unset] [])) _
          refine XS.iconst X262.here hx rfl (hb hby at_63) ?_
          exact kt
        refine own_arm hgo264 ?_
        exact own_armEnd X262 N262 e262 (by rw [hv87.trans (if_neg hc56_86)]))
    obtain ⟨v90, hv90⟩ : ∃ z : Int32, z = (if v87 = (0 : Int32) then (0 : Int32) else (1 : Int32)) := ⟨_, rfl⟩
    obtain ⟨v91, hv91⟩ : ∃ z : Int32, z = (if v85 = (0 : Int32) then (0 : Int32) else v90) := ⟨_, rfl⟩
    obtain ⟨T271, lc271, X271, N271, e271, st271⟩ := own_mrg (n0 := n0) (h := h0) (g := (mkF m 68 #[.val (.int p0), .val (.int p1), .val (.int p2), .val (.int v1), .val (.ref u_BuiltInCall_BuiltIn_IS_LITERAL), .val (.int v83), .val (.int v85), .val (.int v87)] [(.int v85)])) (g' := (mkF m 81 #[.val (.int p0), .val (.int p1), .val (.int p2), .val (.int v1), .val (.ref u_BuiltInCall_BuiltIn_IS_LITERAL), .val (.int v83), .val (.int v85), .val (.int v87)] [(.int v91)])) X265 (by
      by_cases hc68_88 : v85 = (0 : Int32)
      · have hgo266 : ∀ t, Steps p.tables e below (T265.setTop (mkF m 81 #[.val (.int p0), .val (.int p1), .val (.int p2), .val (.int v1), .val (.ref u_BuiltInCall_BuiltIn_IS_LITERAL), .val (.int v83), .val (.int v85), .val (.int v87)] [(.int (0 : Int32))])) t → Steps p.tables e below (T265.setTop (mkF m 68 #[.val (.int p0), .val (.int p1), .val (.int p2), .val (.int v1), .val (.ref u_BuiltInCall_BuiltIn_IS_LITERAL), .val (.int v83), .val (.int v85), .val (.int v87)] [(.int v85)])) t := by
          intro t kt
          show Steps p.tables e below (T265.setTop (mkF m 68 #[.val (.int p0), .val (.int p1), .val (.int p2), .val (.int v1), .val (.ref u_BuiltInCall_BuiltIn_IS_LITERAL), .val (.int v83), .val (.int v85), .val (.int v87)] [(.int v85)])) _
          refine XS.ifYes X265.here hx rfl (pc0 := 68) (pc' := 80) rfl (hb hby at_68) rfl ((if0 _ _).trans (teq hc68_88).1) (by decide) (by decide) ?_
          show Steps p.tables e below (T265.setTop (mkF m 80 #[.val (.int p0), .val (.int p1), .val (.int p2), .val (.int v1), .val (.ref u_BuiltInCall_BuiltIn_IS_LITERAL), .val (.int v83), .val (.int v85), .val (.int v87)] [])) _
          refine XS.iconst X265.here hx rfl (hb hby at_80) ?_
          exact kt
        refine own_arm hgo266 ?_
        exact own_armEnd X265 N265 e265 (by rw [hv91.trans (if_pos hc68_88)])
      · obtain ⟨T269, lc269, X269, N269, e269, st269⟩ := own_mrg (n0 := n0) (h := h0) (g := (mkF m 73 #[.val (.int p0), .val (.int p1), .val (.int p2), .val (.int v1), .val (.ref u_BuiltInCall_BuiltIn_IS_LITERAL), .val (.int v83), .val (.int v85), .val (.int v87)] [(.int v87)])) (g' := (mkF m 81 #[.val (.int p0), .val (.int p1), .val (.int p2), .val (.int v1), .val (.ref u_BuiltInCall_BuiltIn_IS_LITERAL), .val (.int v83), .val (.int v85), .val (.int v87)] [(.int v90)])) X265 (by
          by_cases hc73_89 : v87 = (0 : Int32)
          · have hgo267 : ∀ t, Steps p.tables e below (T265.setTop (mkF m 81 #[.val (.int p0), .val (.int p1), .val (.int p2), .val (.int v1), .val (.ref u_BuiltInCall_BuiltIn_IS_LITERAL), .val (.int v83), .val (.int v85), .val (.int v87)] [(.int (0 : Int32))])) t → Steps p.tables e below (T265.setTop (mkF m 73 #[.val (.int p0), .val (.int p1), .val (.int p2), .val (.int v1), .val (.ref u_BuiltInCall_BuiltIn_IS_LITERAL), .val (.int v83), .val (.int v85), .val (.int v87)] [(.int v87)])) t := by
              intro t kt
              show Steps p.tables e below (T265.setTop (mkF m 73 #[.val (.int p0), .val (.int p1), .val (.int p2), .val (.int v1), .val (.ref u_BuiltInCall_BuiltIn_IS_LITERAL), .val (.int v83), .val (.int v85), .val (.int v87)] [(.int v87)])) _
              refine XS.ifYes X265.here hx rfl (pc0 := 73) (pc' := 80) rfl (hb hby at_73) rfl ((if0 _ _).trans (teq hc73_89).1) (by decide) (by decide) ?_
              show Steps p.tables e below (T265.setTop (mkF m 80 #[.val (.int p0), .val (.int p1), .val (.int p2), .val (.int v1), .val (.ref u_BuiltInCall_BuiltIn_IS_LITERAL), .val (.int v83), .val (.int v85), .val (.int v87)] [])) _
              refine XS.iconst X265.here hx rfl (hb hby at_80) ?_
              exact kt
            refine own_arm hgo267 ?_
            exact own_armEnd X265 N265 e265 (by rw [hv90.trans (if_pos hc73_89)])
          · have hgo268 : ∀ t, Steps p.tables e below (T265.setTop (mkF m 81 #[.val (.int p0), .val (.int p1), .val (.int p2), .val (.int v1), .val (.ref u_BuiltInCall_BuiltIn_IS_LITERAL), .val (.int v83), .val (.int v85), .val (.int v87)] [(.int (1 : Int32))])) t → Steps p.tables e below (T265.setTop (mkF m 73 #[.val (.int p0), .val (.int p1), .val (.int p2), .val (.int v1), .val (.ref u_BuiltInCall_BuiltIn_IS_LITERAL), .val (.int v83), .val (.int v85), .val (.int v87)] [(.int v87)])) t := by
              intro t kt
              show Steps p.tables e below (T265.setTop (mkF m 73 #[.val (.int p0), .val (.int p1), .val (.int p2), .val (.int v1), .val (.ref u_BuiltInCall_BuiltIn_IS_LITERAL), .val (.int v83), .val (.int v85), .val (.int v87)] [(.int v87)])) _
              refine XS.ifNo X265.here hx rfl (hb hby at_73) rfl ((if0 _ _).trans (feq hc73_89).1) ?_
              show Steps p.tables e below (T265.setTop (mkF m 76 #[.val (.int p0), .val (.int p1), .val (.int p2), .val (.int v1), .val (.ref u_BuiltInCall_BuiltIn_IS_LITERAL), .val (.int v83), .val (.int v85), .val (.int v87)] [])) _
              refine XS.iconst X265.here hx rfl (hb hby at_76) ?_
              show Steps p.tables e below (T265.setTop (mkF m 77 #[.val (.int p0), .val (.int p1), .val (.int p2), .val (.int v1), .val (.ref u_BuiltInCall_BuiltIn_IS_LITERAL), .val (.int v83), .val (.int v85), .val (.int v87)] [(.int (1 : Int32))])) _
              refine XS.goto X265.here hx rfl (pc0 := 77) (pc' := 81) rfl (hb hby at_77) (by decide) (by decide) ?_
              exact kt
            refine own_arm hgo268 ?_
            exact own_armEnd X265 N265 e265 (by rw [hv90.trans (if_neg hc73_89)]))
        have hgo270 : ∀ t, Steps p.tables e below (T269.setTop (mkF m 81 #[.val (.int p0), .val (.int p1), .val (.int p2), .val (.int v1), .val (.ref u_BuiltInCall_BuiltIn_IS_LITERAL), .val (.int v83), .val (.int v85), .val (.int v87)] [(.int v90)])) t → Steps p.tables e below (T265.setTop (mkF m 68 #[.val (.int p0), .val (.int p1), .val (.int p2), .val (.int v1), .val (.ref u_BuiltInCall_BuiltIn_IS_LITERAL), .val (.int v83), .val (.int v85), .val (.int v87)] [(.int v85)])) t := by
          intro t kt
          show Steps p.tables e below (T265.setTop (mkF m 68 #[.val (.int p0), .val (.int p1), .val (.int p2), .val (.int v1), .val (.ref u_BuiltInCall_BuiltIn_IS_LITERAL), .val (.int v83), .val (.int v85), .val (.int v87)] [(.int v85)])) _
          refine XS.ifNo X265.here hx rfl (hb hby at_68) rfl ((if0 _ _).trans (feq hc68_88).1) ?_
          show Steps p.tables e below (T265.setTop (mkF m 71 #[.val (.int p0), .val (.int p1), .val (.int p2), .val (.int v1), .val (.ref u_BuiltInCall_BuiltIn_IS_LITERAL), .val (.int v83), .val (.int v85), .val (.int v87)] [])) _
          refine XS.iload X265.here hx rfl (hb hby at_71) rfl ?_
          show Steps p.tables e below (T265.setTop (mkF m 73 #[.val (.int p0), .val (.int p1), .val (.int p2), .val (.int v1), .val (.ref u_BuiltInCall_BuiltIn_IS_LITERAL), .val (.int v83), .val (.int v85), .val (.int v87)] [(.int v87)])) _
          refine st269 _ ?_
          exact kt
        refine own_arm hgo270 ?_
        exact own_armEnd X269 N269 e269 (by rw [hv91.trans (if_neg hc68_88)]))
    have hgo272 : ∀ t, Steps p.tables e below (T271.setTop (mkF m 81 #[.val (.int p0), .val (.int p1), .val (.int p2), .val (.int v1), .val (.ref u_BuiltInCall_BuiltIn_IS_LITERAL), .val (.int v83), .val (.int v85), .val (.int v87)] [(.int v91)])) t → Steps p.tables e below (s₁.setTop (mkF m 9 #[.val (.int p0), .val (.int p1), .val (.int p2), .val (.int v1), .unset, .unset, .unset, .unset] [(.int v1)])) t := by
      intro t kt
      show Steps p.tables e below (s₁.setTop (mkF m 9 #[.val (.int p0), .val (.int p1), .val (.int p2), .val (.int v1), .unset, .unset, .unset, .unset] [(.int v1)])) _
      refine st255 _ ?_
      show Steps p.tables e below (T255.setTop (mkF m 12 #[.val (.int p0), .val (.int p1), .val (.int p2), .val (.int v1), .unset, .unset, .unset, .unset] [(.ref u_BuiltInCall_BuiltIn_IS_LITERAL)])) _
      refine XS.astore X255.here hx rfl (hb hby at_12) rfl rfl (l' := #[.val (.int p0), .val (.int p1), .val (.int p2), .val (.int v1), .val (.ref u_BuiltInCall_BuiltIn_IS_LITERAL), .unset, .unset, .unset]) rfl ?_
      show Steps p.tables e below (T255.setTop (mkF m 14 #[.val (.int p0), .val (.int p1), .val (.int p2), .val (.int v1), .val (.ref u_BuiltInCall_BuiltIn_IS_LITERAL), .unset, .unset, .unset] [])) _
      refine XS.iloadN X255.here hx rfl (hb hby at_14) rfl ?_
      show Steps p.tables e below (T255.setTop (mkF m 15 #[.val (.int p0), .val (.int p1), .val (.int p2), .val (.int v1), .val (.ref u_BuiltInCall_BuiltIn_IS_LITERAL), .unset, .unset, .unset] [(.int p2)])) _
      refine XS.bipush X255.here hx rfl (hb hby at_15) ?_
      show Steps p.tables e below (T255.setTop (mkF m 17 #[.val (.int p0), .val (.int p1), .val (.int p2), .val (.int v1), .val (.ref u_BuiltInCall_BuiltIn_IS_LITERAL), .unset, .unset, .unset] [(.int (7 : Int32)), (.int p2)])) _
      refine XS.iand X255.here hx rfl (hb hby at_17) rfl ?_
      show Steps p.tables e below (T255.setTop (mkF m 18 #[.val (.int p0), .val (.int p1), .val (.int p2), .val (.int v1), .val (.ref u_BuiltInCall_BuiltIn_IS_LITERAL), .unset, .unset, .unset] [(.int (p2 &&& (7 : Int32)))])) _
      refine XS.iconst X255.here hx rfl (hb hby at_18) ?_
      show Steps p.tables e below (T255.setTop (mkF m 19 #[.val (.int p0), .val (.int p1), .val (.int p2), .val (.int v1), .val (.ref u_BuiltInCall_BuiltIn_IS_LITERAL), .unset, .unset, .unset] [(.int (2 : Int32)), (.int (p2 &&& (7 : Int32)))])) _
      refine XS.isub X255.here hx rfl (hb hby at_19) rfl ?_
      show Steps p.tables e below (T255.setTop (mkF m 20 #[.val (.int p0), .val (.int p1), .val (.int p2), .val (.int v1), .val (.ref u_BuiltInCall_BuiltIn_IS_LITERAL), .unset, .unset, .unset] [(.int ((p2 &&& (7 : Int32)) - (2 : Int32)))])) _
      rw [← hv83]
      show Steps p.tables e below (T255.setTop (mkF m 20 #[.val (.int p0), .val (.int p1), .val (.int p2), .val (.int v1), .val (.ref u_BuiltInCall_BuiltIn_IS_LITERAL), .unset, .unset, .unset] [(.int v83)])) _
      refine XS.istore X255.here hx rfl (hb hby at_20) rfl (l' := #[.val (.int p0), .val (.int p1), .val (.int p2), .val (.int v1), .val (.ref u_BuiltInCall_BuiltIn_IS_LITERAL), .val (.int v83), .unset, .unset]) rfl ?_
      show Steps p.tables e below (T255.setTop (mkF m 22 #[.val (.int p0), .val (.int p1), .val (.int p2), .val (.int v1), .val (.ref u_BuiltInCall_BuiltIn_IS_LITERAL), .val (.int v83), .unset, .unset] [])) _
      refine XS.aload X255.here hx rfl (hb hby at_22) rfl rfl ?_
      show Steps p.tables e below (T255.setTop (mkF m 24 #[.val (.int p0), .val (.int p1), .val (.int p2), .val (.int v1), .val (.ref u_BuiltInCall_BuiltIn_IS_LITERAL), .val (.int v83), .unset, .unset] [(.ref u_BuiltInCall_BuiltIn_IS_LITERAL)])) _
      refine XS.iloadN X255.here hx rfl (hb hby at_24) rfl ?_
      show Steps p.tables e below (T255.setTop (mkF m 25 #[.val (.int p0), .val (.int p1), .val (.int p2), .val (.int v1), .val (.ref u_BuiltInCall_BuiltIn_IS_LITERAL), .val (.int v83), .unset, .unset] [(.int p1), (.ref u_BuiltInCall_BuiltIn_IS_LITERAL)])) _
      refine st256.trans ?_
      show Steps p.tables e below (T256.setTop (mkF m 28 #[.val (.int p0), .val (.int p1), .val (.int p2), .val (.int v1), .val (.ref u_BuiltInCall_BuiltIn_IS_LITERAL), .val (.int v83), .unset, .unset] [(.int (own_r2 p1 (1 : Int32) (1 : Int32)))])) _
      refine XS.iloadN X256.here hx rfl (hb hby at_28) rfl ?_
      show Steps p.tables e below (T256.setTop (mkF m 29 #[.val (.int p0), .val (.int p1), .val (.int p2), .val (.int v1), .val (.ref u_BuiltInCall_BuiltIn_IS_LITERAL), .val (.int v83), .unset, .unset] [(.int v1), (.int (own_r2 p1 (1 : Int32) (1 : Int32)))])) _
      refine XS.iloadN X256.here hx rfl (hb hby at_29) rfl ?_
      show Steps p.tables e below (T256.setTop (mkF m 30 #[.val (.int p0), .val (.int p1), .val (.int p2), .val (.int v1), .val (.ref u_BuiltInCall_BuiltIn_IS_LITERAL), .val (.int v83), .unset, .unset] [(.int p1), (.int v1), (.int (own_r2 p1 (1 : Int32) (1 : Int32)))])) _
      refine st257 _ ?_
      show Steps p.tables e below (T257.setTop (mkF m 33 #[.val (.int p0), .val (.int p1), .val (.int p2), .val (.int v1), .val (.ref u_BuiltInCall_BuiltIn_IS_LITERAL), .val (.int v83), .unset, .unset] [(.int (own_r3 v1 p1)), (.int (own_r2 p1 (1 : Int32) (1 : Int32)))])) _
      refine st260 _ ?_
      show Steps p.tables e below (T260.setTop (mkF m 41 #[.val (.int p0), .val (.int p1), .val (.int p2), .val (.int v1), .val (.ref u_BuiltInCall_BuiltIn_IS_LITERAL), .val (.int v83), .unset, .unset] [(.int v85)])) _
      refine XS.istore X260.here hx rfl (hb hby at_41) rfl (l' := #[.val (.int p0), .val (.int p1), .val (.int p2), .val (.int v1), .val (.ref u_BuiltInCall_BuiltIn_IS_LITERAL), .val (.int v83), .val (.int v85), .unset]) rfl ?_
      show Steps p.tables e below (T260.setTop (mkF m 43 #[.val (.int p0), .val (.int p1), .val (.int p2), .val (.int v1), .val (.ref u_BuiltInCall_BuiltIn_IS_LITERAL), .val (.int v83), .val (.int v85), .unset] [])) _
      refine XS.aload X260.here hx rfl (hb hby at_43) rfl rfl ?_
      show Steps p.tables e below (T260.setTop (mkF m 45 #[.val (.int p0), .val (.int p1), .val (.int p2), .val (.int v1), .val (.ref u_BuiltInCall_BuiltIn_IS_LITERAL), .val (.int v83), .val (.int v85), .unset] [(.ref u_BuiltInCall_BuiltIn_IS_LITERAL)])) _
      refine XS.iload X260.here hx rfl (hb hby at_45) rfl ?_
      show Steps p.tables e below (T260.setTop (mkF m 47 #[.val (.int p0), .val (.int p1), .val (.int p2), .val (.int v1), .val (.ref u_BuiltInCall_BuiltIn_IS_LITERAL), .val (.int v83), .val (.int v85), .unset] [(.int v83), (.ref u_BuiltInCall_BuiltIn_IS_LITERAL)])) _
      refine st261.trans ?_
      show Steps p.tables e below (T261.setTop (mkF m 50 #[.val (.int p0), .val (.int p1), .val (.int p2), .val (.int v1), .val (.ref u_BuiltInCall_BuiltIn_IS_LITERAL), .val (.int v83), .val (.int v85), .unset] [(.int (own_r2 v83 (1 : Int32) (1 : Int32)))])) _
      refine XS.iloadN X261.here hx rfl (hb hby at_50) rfl ?_
      show Steps p.tables e below (T261.setTop (mkF m 51 #[.val (.int p0), .val (.int p1), .val (.int p2), .val (.int v1), .val (.ref u_BuiltInCall_BuiltIn_IS_LITERAL), .val (.int v83), .val (.int v85), .unset] [(.int v1), (.int (own_r2 v83 (1 : Int32) (1 : Int32)))])) _
      refine XS.iload X261.here hx rfl (hb hby at_51) rfl ?_
      show Steps p.tables e below (T261.setTop (mkF m 53 #[.val (.int p0), .val (.int p1), .val (.int p2), .val (.int v1), .val (.ref u_BuiltInCall_BuiltIn_IS_LITERAL), .val (.int v83), .val (.int v85), .unset] [(.int v83), (.int v1), (.int (own_r2 v83 (1 : Int32) (1 : Int32)))])) _
      refine st262 _ ?_
      show Steps p.tables e below (T262.setTop (mkF m 56 #[.val (.int p0), .val (.int p1), .val (.int p2), .val (.int v1), .val (.ref u_BuiltInCall_BuiltIn_IS_LITERAL), .val (.int v83), .val (.int v85), .unset] [(.int (own_r3 v1 v83)), (.int (own_r2 v83 (1 : Int32) (1 : Int32)))])) _
      refine st265 _ ?_
      show Steps p.tables e below (T265.setTop (mkF m 64 #[.val (.int p0), .val (.int p1), .val (.int p2), .val (.int v1), .val (.ref u_BuiltInCall_BuiltIn_IS_LITERAL), .val (.int v83), .val (.int v85), .unset] [(.int v87)])) _
      refine XS.istore X265.here hx rfl (hb hby at_64) rfl (l' := #[.val (.int p0), .val (.int p1), .val (.int p2), .val (.int v1), .val (.ref u_BuiltInCall_BuiltIn_IS_LITERAL), .val (.int v83), .val (.int v85), .val (.int v87)]) rfl ?_
      show Steps p.tables e below (T265.setTop (mkF m 66 #[.val (.int p0), .val (.int p1), .val (.int p2), .val (.int v1), .val (.ref u_BuiltInCall_BuiltIn_IS_LITERAL), .val (.int v83), .val (.int v85), .val (.int v87)] [])) _
      refine XS.iload X265.here hx rfl (hb hby at_66) rfl ?_
      show Steps p.tables e below (T265.setTop (mkF m 68 #[.val (.int p0), .val (.int p1), .val (.int p2), .val (.int v1), .val (.ref u_BuiltInCall_BuiltIn_IS_LITERAL), .val (.int v83), .val (.int v85), .val (.int v87)] [(.int v85)])) _
      refine st271 _ ?_
      exact kt
    refine own_go hgo272 ?_
    have hz273 : v91 = 1 := own_leaf8 (p0 := p0) (p1 := p1) (p2 := p2) (u_BuiltInCall_BuiltIn_STR := u_BuiltInCall_BuiltIn_STR) (u_BuiltInCall_BuiltIn_LANG := u_BuiltInCall_BuiltIn_LANG) (u_BuiltInCall_BuiltIn_SAME_TERM := u_BuiltInCall_BuiltIn_SAME_TERM) (u_BuiltInCall_BuiltIn_IS_IRI := u_BuiltInCall_BuiltIn_IS_IRI) (u_BuiltInCall_BuiltIn_IS_LITERAL := u_BuiltInCall_BuiltIn_IS_LITERAL) (u_BuiltInCall_BuiltIn_DATATYPE := u_BuiltInCall_BuiltIn_DATATYPE) (u_BuiltInCall_BuiltIn_IS_URI := u_BuiltInCall_BuiltIn_IS_URI) (u_BuiltInCall_BuiltIn_IS_BLANK := u_BuiltInCall_BuiltIn_IS_BLANK) (u_BuiltInCall_BuiltIn_REGEX := u_BuiltInCall_BuiltIn_REGEX) (u_BuiltInCall_BuiltIn_LANG_MATCHES := u_BuiltInCall_BuiltIn_LANG_MATCHES) hv1 hv83 hv85 hv87 hv90 hv91 hs9_2 hs9_12 hs9_22 hs9_32 hs9_42 hs9_52 hs9_62 hs9_72 hs9_82
    exact own_retZ X271 hx Bd.returns Bd.notSynchronized (hb hby at_81) (by decide) (by decide) (Or.inr hz273) ⟨by rw [hz273], N271⟩
  · obtain ⟨_, _, ⟨T274, L274, k274, n274⟩, -, X274, ⟨Lc274, hQ274, l274, y274, z274⟩, st274⟩ := Jvm.LawKit.callS X0 hx (y := (⟨"com/example/muset/muset/sparql/BuiltInTakesPinLaw", "pick", "(I)Lcom/example/muset/muset/sparql/BuiltInCall$BuiltIn;"⟩ : MethodName)) hown (mvT hZ (hw _ (List.mem_of_getElem? (i := 1) rfl))) (mvT hZ (hw _ (List.mem_of_getElem? (i := 2) rfl))) (mvT hZ (hw _ (List.mem_of_getElem? (i := 3) rfl))) (mvT hZ (hw _ (List.mem_of_getElem? (i := 4) rfl))) (by decide) (backOf (W := 0) (rm1_9 l Z a0 hw [] v1 u_BuiltInCall_BuiltIn_REGEX h0 n0 Z0 (by first | assumption | decide : ¬ (v1 = (0 : Int32))) (by first | assumption | decide : ¬ (v1 = (1 : Int32))) (by first | assumption | decide : ¬ (v1 = (2 : Int32))) (by first | assumption | decide : ¬ (v1 = (3 : Int32))) (by first | assumption | decide : ¬ (v1 = (4 : Int32))) (by first | assumption | decide : ¬ (v1 = (5 : Int32))) (by first | assumption | decide : ¬ (v1 = (6 : Int32))) (by first | assumption | decide : ¬ (v1 = (7 : Int32))) (by first | assumption | decide : ¬ (v1 = (8 : Int32))) S_u_BuiltInCall_BuiltIn_REGEX) hZ (hw _ (List.mem_of_getElem? (i := 4) rfl)) (hw _ (List.mem_of_getElem? (i := 3) rfl)) (by decide) (by decide)) (g := (mkF m 9 #[.val (.int p0), .val (.int p1), .val (.int p2), .val (.int v1), .unset, .unset, .unset, .unset] [(.int v1)])) rfl (by rw [hml]; rfl) (argsL := [(.int v1)]) (rest := []) (lenOf pd2 rfl) rfl (by show 2 * 0 + _ ≤ _; exact Nat.le_of_eq rfl) (hb hby at_9) (fun _ _ => ⟨rfl, e0, (by decide : 0 + 0 ≤ _), (by decide : 0 + 0 ≤ _)⟩)
    dsimp only [Pt.U, Pt.locs, Pt.cells, Pt.slots] at X274 l274 y274 z274 st274 hQ274
    subst l274 y274 z274
    obtain ⟨rfl, N274q, e274⟩ := hQ274
    have N274 := Fr.app N0 N274q
    obtain ⟨v92, hv92⟩ : ∃ z : Int32, z = ((p2 &&& (7 : Int32)) - (2 : Int32)) := ⟨_, rfl⟩
    obtain ⟨cq275, kq275, q275a, q275b, q275c⟩ := isOf hZ e274 E_u_BuiltInCall_BuiltIn_REGEX
    obtain ⟨_, _, ⟨T275, L275, k275, n275⟩, -, X275, ⟨Lc275, hQ275, l275, y275, z275⟩, st275⟩ := X274.virtualBack hx (y := (⟨"com/example/muset/muset/sparql/BuiltInCall$BuiltIn", "takes", "(I)Z"⟩ : MethodName)) (z := (⟨"com/example/muset/muset/sparql/BuiltInCall$BuiltIn", "takes", "(I)Z"⟩ : MethodName)) hown (mvT hZ (hw _ (List.mem_of_getElem? (i := 8) rfl))) (mvT hZ (hw _ (List.mem_of_getElem? (i := 9) rfl))) (notFace_of_selects (args := #[]) (mvT hZ (hw _ (List.mem_of_getElem? (i := 11) rfl)))) (mvT hZ (hw _ (List.mem_of_getElem? (i := 11) rfl))) (mvT hZ (hw _ (List.mem_of_getElem? (i := 10) rfl))) (by decide) (backOf (W := 0) (rm2 l Z a0 hw [] u_BuiltInCall_BuiltIn_REGEX p1 (2 : Int32) (3 : Int32) h0 n0 Z0 F_minArguments_u_BuiltInCall_BuiltIn_REGEX F_maxArguments_u_BuiltInCall_BuiltIn_REGEX) hZ (hw _ (List.mem_of_getElem? (i := 12) rfl)) (hw _ (List.mem_of_getElem? (i := 6) rfl)) (by decide) (by decide)) q275a q275c (g := (mkF m 25 #[.val (.int p0), .val (.int p1), .val (.int p2), .val (.int v1), .val (.ref u_BuiltInCall_BuiltIn_REGEX), .val (.int v92), .unset, .unset] [(.int p1), (.ref u_BuiltInCall_BuiltIn_REGEX)])) rfl (by rw [hml]; rfl) (Steps.refl _) (argsL := [(.int p1)]) (rest := []) (lenOf pd3 rfl) rfl (by show 2 * 0 + _ ≤ _; exact Nat.le_of_eq rfl) (hb hby at_25) (fun _ _ => ⟨rfl, e274, (by decide : 0 + 0 ≤ _), (by decide : 0 + 0 ≤ _)⟩)
    dsimp only [Pt.U, Pt.locs, Pt.cells, Pt.slots] at X275 l275 y275 z275 st275 hQ275
    subst l275 y275 z275
    obtain ⟨rfl, N275q, e275⟩ := hQ275
    have N275 := Fr.app N274 N275q
    obtain ⟨_, _, ⟨T276, L276, k276, n276⟩, -, X276, ⟨Lc276, hQ276, l276, y276, z276⟩, st276⟩ := Jvm.LawKit.callS X275 hx (y := (⟨"com/example/muset/muset/sparql/BuiltInTakesPinLaw", "expected", "(II)Z"⟩ : MethodName)) hown (mvT hZ (hw _ (List.mem_of_getElem? (i := 17) rfl))) (mvT hZ (hw _ (List.mem_of_getElem? (i := 18) rfl))) (mvT hZ (hw _ (List.mem_of_getElem? (i := 3) rfl))) (mvT hZ (hw _ (List.mem_of_getElem? (i := 19) rfl))) (by decide) (backOf (W := 1) (rm3 l Z a0 hw [] v1 p1 h0 n0 Z0 ) hZ (hw _ (List.mem_of_getElem? (i := 19) rfl)) (hw _ (List.mem_of_getElem? (i := 3) rfl)) (by decide) (by decide)) (g := (mkF m 30 #[.val (.int p0), .val (.int p1), .val (.int p2), .val (.int v1), .val (.ref u_BuiltInCall_BuiltIn_REGEX), .val (.int v92), .unset, .unset] [(.int p1), (.int v1), (.int (own_r2 p1 (2 : Int32) (3 : Int32)))])) rfl (by rw [hml]; rfl) (argsL := [(.int v1), (.int p1)]) (rest := [(.int (own_r2 p1 (2 : Int32) (3 : Int32)))]) (lenOf pd4 rfl) rfl (by show 2 * 0 + _ ≤ _; exact Nat.le_of_eq rfl) (hb hby at_30) (fun _ _ => ⟨rfl, e275, (by decide : 0 + 0 ≤ _), (by decide : 0 + 0 ≤ _)⟩)
    dsimp only [Pt.U, Pt.locs, Pt.cells, Pt.slots] at X276 l276 y276 z276 st276 hQ276
    subst l276 y276 z276
    obtain ⟨rfl, N276q, e276⟩ := hQ276
    have N276 := Fr.app N275 N276q
    obtain ⟨v94, hv94⟩ : ∃ z : Int32, z = (if (own_r2 p1 (2 : Int32) (3 : Int32)) = (own_r3 v1 p1) then (1 : Int32) else (0 : Int32)) := ⟨_, rfl⟩
    obtain ⟨T279, lc279, X279, N279, e279, st279⟩ := own_mrg (n0 := n0) (h := h0) (g := (mkF m 33 #[.val (.int p0), .val (.int p1), .val (.int p2), .val (.int v1), .val (.ref u_BuiltInCall_BuiltIn_REGEX), .val (.int v92), .unset, .unset] [(.int (own_r3 v1 p1)), (.int (own_r2 p1 (2 : Int32) (3 : Int32)))])) (g' := (mkF m 41 #[.val (.int p0), .val (.int p1), .val (.int p2), .val (.int v1), .val (.ref u_BuiltInCall_BuiltIn_REGEX), .val (.int v92), .unset, .unset] [(.int v94)])) X276 (by
      by_cases hc33_93 : (own_r2 p1 (2 : Int32) (3 : Int32)) = (own_r3 v1 p1)
      · have hgo277 : ∀ t, Steps p.tables e below (T276.setTop (mkF m 41 #[.val (.int p0), .val (.int p1), .val (.int p2), .val (.int v1), .val (.ref u_BuiltInCall_BuiltIn_REGEX), .val (.int v92), .unset, .unset] [(.int (1 : Int32))])) t → Steps p.tables e below (T276.setTop (mkF m 33 #[.val (.int p0), .val (.int p1), .val (.int p2), .val (.int v1), .val (.ref u_BuiltInCall_BuiltIn_REGEX), .val (.int v92), .unset, .unset] [(.int (own_r3 v1 p1)), (.int (own_r2 p1 (2 : Int32) (3 : Int32)))])) t := by
          intro t kt
          show Steps p.tables e below (T276.setTop (mkF m 33 #[.val (.int p0), .val (.int p1), .val (.int p2), .val (.int v1), .val (.ref u_BuiltInCall_BuiltIn_REGEX), .val (.int v92), .unset, .unset] [(.int (own_r3 v1 p1)), (.int (own_r2 p1 (2 : Int32) (3 : Int32)))])) _
          refine XS.icmpNo X276.here hx rfl (hb hby at_33) rfl (teq hc33_93).2 ?_
          show Steps p.tables e below (T276.setTop (mkF m 36 #[.val (.int p0), .val (.int p1), .val (.int p2), .val (.int v1), .val (.ref u_BuiltInCall_BuiltIn_REGEX), .val (.int v92), .unset, .unset] [])) _
          refine XS.iconst X276.here hx rfl (hb hby at_36) ?_
          show Steps p.tables e below (T276.setTop (mkF m 37 #[.val (.int p0), .val (.int p1), .val (.int p2), .val (.int v1), .val (.ref u_BuiltInCall_BuiltIn_REGEX), .val (.int v92), .unset, .unset] [(.int (1 : Int32))])) _
          refine XS.goto X276.here hx rfl (pc0 := 37) (pc' := 41) rfl (hb hby at_37) (by decide) (by decide) ?_
          exact kt
        refine own_arm hgo277 ?_
        exact own_armEnd X276 N276 e276 (by rw [hv94.trans (if_pos hc33_93)])
      · have hgo278 : ∀ t, Steps p.tables e below (T276.setTop (mkF m 41 #[.val (.int p0), .val (.int p1), .val (.int p2), .val (.int v1), .val (.ref u_BuiltInCall_BuiltIn_REGEX), .val (.int v92), .unset, .unset] [(.int (0 : Int32))])) t → Steps p.tables e below (T276.setTop (mkF m 33 #[.val (.int p0), .val (.int p1), .val (.int p2), .val (.int v1), .val (.ref u_BuiltInCall_BuiltIn_REGEX), .val (.int v92), .unset, .unset] [(.int (own_r3 v1 p1)), (.int (own_r2 p1 (2 : Int32) (3 : Int32)))])) t := by
          intro t kt
          show Steps p.tables e below (T276.setTop (mkF m 33 #[.val (.int p0), .val (.int p1), .val (.int p2), .val (.int v1), .val (.ref u_BuiltInCall_BuiltIn_REGEX), .val (.int v92), .unset, .unset] [(.int (own_r3 v1 p1)), (.int (own_r2 p1 (2 : Int32) (3 : Int32)))])) _
          refine XS.icmpYes X276.here hx rfl (pc0 := 33) (pc' := 40) rfl (hb hby at_33) rfl (feq hc33_93).2 (by decide) (by decide) ?_
          show Steps p.tables e below (T276.setTop (mkF m 40 #[.val (.int p0), .val (.int p1), .val (.int p2), .val (.int v1), .val (.ref u_BuiltInCall_BuiltIn_REGEX), .val (.int v92), .unset, .unset] [])) _
          refine XS.iconst X276.here hx rfl (hb hby at_40) ?_
          exact kt
        refine own_arm hgo278 ?_
        exact own_armEnd X276 N276 e276 (by rw [hv94.trans (if_neg hc33_93)]))
    obtain ⟨cq280, kq280, q280a, q280b, q280c⟩ := isOf hZ e279 E_u_BuiltInCall_BuiltIn_REGEX
    obtain ⟨_, _, ⟨T280, L280, k280, n280⟩, -, X280, ⟨Lc280, hQ280, l280, y280, z280⟩, st280⟩ := X279.virtualBack hx (y := (⟨"com/example/muset/muset/sparql/BuiltInCall$BuiltIn", "takes", "(I)Z"⟩ : MethodName)) (z := (⟨"com/example/muset/muset/sparql/BuiltInCall$BuiltIn", "takes", "(I)Z"⟩ : MethodName)) hown (mvT hZ (hw _ (List.mem_of_getElem? (i := 8) rfl))) (mvT hZ (hw _ (List.mem_of_getElem? (i := 9) rfl))) (notFace_of_selects (args := #[]) (mvT hZ (hw _ (List.mem_of_getElem? (i := 11) rfl)))) (mvT hZ (hw _ (List.mem_of_getElem? (i := 11) rfl))) (mvT hZ (hw _ (List.mem_of_getElem? (i := 10) rfl))) (by decide) (backOf (W := 0) (rm2 l Z a0 hw [] u_BuiltInCall_BuiltIn_REGEX v92 (2 : Int32) (3 : Int32) h0 n0 Z0 F_minArguments_u_BuiltInCall_BuiltIn_REGEX F_maxArguments_u_BuiltInCall_BuiltIn_REGEX) hZ (hw _ (List.mem_of_getElem? (i := 12) rfl)) (hw _ (List.mem_of_getElem? (i := 6) rfl)) (by decide) (by decide)) q280a q280c (g := (mkF m 47 #[.val (.int p0), .val (.int p1), .val (.int p2), .val (.int v1), .val (.ref u_BuiltInCall_BuiltIn_REGEX), .val (.int v92), .val (.int v94), .unset] [(.int v92), (.ref u_BuiltInCall_BuiltIn_REGEX)])) rfl (by rw [hml]; rfl) (Steps.refl _) (argsL := [(.int v92)]) (rest := []) (lenOf pd3 rfl) rfl (by show 2 * 0 + _ ≤ _; exact Nat.le_of_eq rfl) (hb hby at_47) (fun _ _ => ⟨rfl, e279, (by decide : 0 + 0 ≤ _), (by decide : 0 + 0 ≤ _)⟩)
    dsimp only [Pt.U, Pt.locs, Pt.cells, Pt.slots] at X280 l280 y280 z280 st280 hQ280
    subst l280 y280 z280
    obtain ⟨rfl, N280q, e280⟩ := hQ280
    have N280 := Fr.app N279 N280q
    obtain ⟨_, _, ⟨T281, L281, k281, n281⟩, -, X281, ⟨Lc281, hQ281, l281, y281, z281⟩, st281⟩ := Jvm.LawKit.callS X280 hx (y := (⟨"com/example/muset/muset/sparql/BuiltInTakesPinLaw", "expected", "(II)Z"⟩ : MethodName)) hown (mvT hZ (hw _ (List.mem_of_getElem? (i := 17) rfl))) (mvT hZ (hw _ (List.mem_of_getElem? (i := 18) rfl))) (mvT hZ (hw _ (List.mem_of_getElem? (i := 3) rfl))) (mvT hZ (hw _ (List.mem_of_getElem? (i := 19) rfl))) (by decide) (backOf (W := 1) (rm3 l Z a0 hw [] v1 v92 h0 n0 Z0 ) hZ (hw _ (List.mem_of_getElem? (i := 19) rfl)) (hw _ (List.mem_of_getElem? (i := 3) rfl)) (by decide) (by decide)) (g := (mkF m 53 #[.val (.int p0), .val (.int p1), .val (.int p2), .val (.int v1), .val (.ref u_BuiltInCall_BuiltIn_REGEX), .val (.int v92), .val (.int v94), .unset] [(.int v92), (.int v1), (.int (own_r2 v92 (2 : Int32) (3 : Int32)))])) rfl (by rw [hml]; rfl) (argsL := [(.int v1), (.int v92)]) (rest := [(.int (own_r2 v92 (2 : Int32) (3 : Int32)))]) (lenOf pd4 rfl) rfl (by show 2 * 0 + _ ≤ _; exact Nat.le_of_eq rfl) (hb hby at_53) (fun _ _ => ⟨rfl, e280, (by decide : 0 + 0 ≤ _), (by decide : 0 + 0 ≤ _)⟩)
    dsimp only [Pt.U, Pt.locs, Pt.cells, Pt.slots] at X281 l281 y281 z281 st281 hQ281
    subst l281 y281 z281
    obtain ⟨rfl, N281q, e281⟩ := hQ281
    have N281 := Fr.app N280 N281q
    obtain ⟨v96, hv96⟩ : ∃ z : Int32, z = (if (own_r2 v92 (2 : Int32) (3 : Int32)) = (own_r3 v1 v92) then (1 : Int32) else (0 : Int32)) := ⟨_, rfl⟩
    obtain ⟨T284, lc284, X284, N284, e284, st284⟩ := own_mrg (n0 := n0) (h := h0) (g := (mkF m 56 #[.val (.int p0), .val (.int p1), .val (.int p2), .val (.int v1), .val (.ref u_BuiltInCall_BuiltIn_REGEX), .val (.int v92), .val (.int v94), .unset] [(.int (own_r3 v1 v92)), (.int (own_r2 v92 (2 : Int32) (3 : Int32)))])) (g' := (mkF m 64 #[.val (.int p0), .val (.int p1), .val (.int p2), .val (.int v1), .val (.ref u_BuiltInCall_BuiltIn_REGEX), .val (.int v92), .val (.int v94), .unset] [(.int v96)])) X281 (by
      by_cases hc56_95 : (own_r2 v92 (2 : Int32) (3 : Int32)) = (own_r3 v1 v92)
      · have hgo282 : ∀ t, Steps p.tables e below (T281.setTop (mkF m 64 #[.val (.int p0), .val (.int p1), .val (.int p2), .val (.int v1), .val (.ref u_BuiltInCall_BuiltIn_REGEX), .val (.int v92), .val (.int v94), .unset] [(.int (1 : Int32))])) t → Steps p.tables e below (T281.setTop (mkF m 56 #[.val (.int p0), .val (.int p1), .val (.int p2), .val (.int v1), .val (.ref u_BuiltInCall_BuiltIn_REGEX), .val (.int v92), .val (.int v94), .unset] [(.int (own_r3 v1 v92)), (.int (own_r2 v92 (2 : Int32) (3 : Int32)))])) t := by
          intro t kt
          show Steps p.tables e below (T281.setTop (mkF m 56 #[.val (.int p0), .val (.int p1), .val (.int p2), .val (.int v1), .val (.ref u_BuiltInCall_BuiltIn_REGEX), .val (.int v92), .val (.int v94), .unset] [(.int (own_r3 v1 v92)), (.int (own_r2 v92 (2 : Int32) (3 : Int32)))])) _
          refine XS.icmpNo X281.here hx rfl (hb hby at_56) rfl (teq hc56_95).2 ?_
          show Steps p.tables e below (T281.setTop (mkF m 59 #[.val (.int p0), .val (.int p1), .val (.int p2), .val (.int v1), .val (.ref u_BuiltInCall_BuiltIn_REGEX), .val (.int v92), .val (.int v94), .unset] [])) _
          refine XS.iconst X281.here hx rfl (hb hby at_59) ?_
          show Steps p.tables e below (T281.setTop (mkF m 60 #[.val (.int p0), .val (.int p1), .val (.int p2), .val (.int v1), .val (.ref u_BuiltInCall_BuiltIn_REGEX), .val (.int v92), .val (.int v94), .unset] [(.int (1 : Int32))])) _
          refine XS.goto X281.here hx rfl (pc0 := 60) (pc' := 64) rfl (hb hby at_60) (by decide) (by decide) ?_
          exact kt
        refine own_arm hgo282 ?_
        exact own_armEnd X281 N281 e281 (by rw [hv96.trans (if_pos hc56_95)])
      · have hgo283 : ∀ t, Steps p.tables e below (T281.setTop (mkF m 64 #[.val (.int p0), .val (.int p1), .val (.int p2), .val (.int v1), .val (.ref u_BuiltInCall_BuiltIn_REGEX), .val (.int v92), .val (.int v94), .unset] [(.int (0 : Int32))])) t → Steps p.tables e below (T281.setTop (mkF m 56 #[.val (.int p0), .val (.int p1), .val (.int p2), .val (.int v1), .val (.ref u_BuiltInCall_BuiltIn_REGEX), .val (.int v92), .val (.int v94), .unset] [(.int (own_r3 v1 v92)), (.int (own_r2 v92 (2 : Int32) (3 : Int32)))])) t := by
          intro t kt
          show Steps p.tables e below (T281.setTop (mkF m 56 #[.val (.int p0), .val (.int p1), .val (.int p2), .val (.int v1), .val (.ref u_BuiltInCall_BuiltIn_REGEX), .val (.int v92), .val (.int v94), .unset] [(.int (own_r3 v1 v92)), (.int (own_r2 v92 (2 : Int32) (3 : Int32)))])) _
          refine XS.icmpYes X281.here hx rfl (pc0 := 56) (pc' := 63) rfl (hb hby at_56) rfl (feq hc56_95).2 (by decide) (by decide) ?_
          show Steps p.tables e below (T281.setTop (mkF m 63 #[.val (.int p0), .val (.int p1), .val (.int p2), .val (.int v1), .val (.ref u_BuiltInCall_BuiltIn_REGEX), .val (.int v92), .val (.int v94), .unset] [])) _
          refine XS.iconst X281.here hx rfl (hb hby at_63) ?_
          exact kt
        refine own_arm hgo283 ?_
        exact own_armEnd X281 N281 e281 (by rw [hv96.trans (if_neg hc56_95)]))
    obtain ⟨v99, hv99⟩ : ∃ z : Int32, z = (if v96 = (0 : Int32) then (0 : Int32) else (1 : Int32)) := ⟨_, rfl⟩
    obtain ⟨v100, hv100⟩ : ∃ z : Int32, z = (if v94 = (0 : Int32) then (0 : Int32) else v99) := ⟨_, rfl⟩
    obtain ⟨T290, lc290, X290, N290, e290, st290⟩ := own_mrg (n0 := n0) (h := h0) (g := (mkF m 68 #[.val (.int p0), .val (.int p1), .val (.int p2), .val (.int v1), .val (.ref u_BuiltInCall_BuiltIn_REGEX), .val (.int v92), .val (.int v94), .val (.int v96)] [(.int v94)])) (g' := (mkF m 81 #[.val (.int p0), .val (.int p1), .val (.int p2), .val (.int v1), .val (.ref u_BuiltInCall_BuiltIn_REGEX), .val (.int v92), .val (.int v94), .val (.int v96)] [(.int v100)])) X284 (by
      by_cases hc68_97 : v94 = (0 : Int32)
      · have hgo285 : ∀ t, Steps p.tables e below (T284.setTop (mkF m 81 #[.val (.int p0), .val (.int p1), .val (.int p2), .val (.int v1), .val (.ref u_BuiltInCall_BuiltIn_REGEX), .val (.int v92), .val (.int v94), .val (.int v96)] [(.int (0 : Int32))])) t → Steps p.tables e below (T284.setTop (mkF m 68 #[.val (.int p0), .val (.int p1), .val (.int p2), .val (.int v1), .val (.ref u_BuiltInCall_BuiltIn_REGEX), .val (.int v92), .val (.int v94), .val (.int v96)] [(.int v94)])) t := by
          intro t kt
          show Steps p.tables e below (T284.setTop (mkF m 68 #[.val (.int p0), .val (.int p1), .val (.int p2), .val (.int v1), .val (.ref u_BuiltInCall_BuiltIn_REGEX), .val (.int v92), .val (.int v94), .val (.int v96)] [(.int v94)])) _
          refine XS.ifYes X284.here hx rfl (pc0 := 68) (pc' := 80) rfl (hb hby at_68) rfl ((if0 _ _).trans (teq hc68_97).1) (by decide) (by decide) ?_
          show Steps p.tables e below (T284.setTop (mkF m 80 #[.val (.int p0), .val (.int p1), .val (.int p2), .val (.int v1), .val (.ref u_BuiltInCall_BuiltIn_REGEX), .val (.int v92), .val (.int v94), .val (.int v96)] [])) _
          refine XS.iconst X284.here hx rfl (hb hby at_80) ?_
          exact kt
        refine own_arm hgo285 ?_
        exact own_armEnd X284 N284 e284 (by rw [hv100.trans (if_pos hc68_97)])
      · obtain ⟨T288, lc288, X288, N288, e288, st288⟩ := own_mrg (n0 := n0) (h := h0) (g := (mkF m 73 #[.val (.int p0), .val (.int p1), .val (.int p2), .val (.int v1), .val (.ref u_BuiltInCall_BuiltIn_REGEX), .val (.int v92), .val (.int v94), .val (.int v96)] [(.int v96)])) (g' := (mkF m 81 #[.val (.int p0), .val (.int p1), .val (.int p2), .val (.int v1), .val (.ref u_BuiltInCall_BuiltIn_REGEX), .val (.int v92), .val (.int v94), .val (.int v96)] [(.int v99)])) X284 (by
          by_cases hc73_98 : v96 = (0 : Int32)
          · have hgo286 : ∀ t, Steps p.tables e below (T284.setTop (mkF m 81 #[.val (.int p0), .val (.int p1), .val (.int p2), .val (.int v1), .val (.ref u_BuiltInCall_BuiltIn_REGEX), .val (.int v92), .val (.int v94), .val (.int v96)] [(.int (0 : Int32))])) t → Steps p.tables e below (T284.setTop (mkF m 73 #[.val (.int p0), .val (.int p1), .val (.int p2), .val (.int v1), .val (.ref u_BuiltInCall_BuiltIn_REGEX), .val (.int v92), .val (.int v94), .val (.int v96)] [(.int v96)])) t := by
              intro t kt
              show Steps p.tables e below (T284.setTop (mkF m 73 #[.val (.int p0), .val (.int p1), .val (.int p2), .val (.int v1), .val (.ref u_BuiltInCall_BuiltIn_REGEX), .val (.int v92), .val (.int v94), .val (.int v96)] [(.int v96)])) _
              refine XS.ifYes X284.here hx rfl (pc0 := 73) (pc' := 80) rfl (hb hby at_73) rfl ((if0 _ _).trans (teq hc73_98).1) (by decide) (by decide) ?_
              show Steps p.tables e below (T284.setTop (mkF m 80 #[.val (.int p0), .val (.int p1), .val (.int p2), .val (.int v1), .val (.ref u_BuiltInCall_BuiltIn_REGEX), .val (.int v92), .val (.int v94), .val (.int v96)] [])) _
              refine XS.iconst X284.here hx rfl (hb hby at_80) ?_
              exact kt
            refine own_arm hgo286 ?_
            exact own_armEnd X284 N284 e284 (by rw [hv99.trans (if_pos hc73_98)])
          · have hgo287 : ∀ t, Steps p.tables e below (T284.setTop (mkF m 81 #[.val (.int p0), .val (.int p1), .val (.int p2), .val (.int v1), .val (.ref u_BuiltInCall_BuiltIn_REGEX), .val (.int v92), .val (.int v94), .val (.int v96)] [(.int (1 : Int32))])) t → Steps p.tables e below (T284.setTop (mkF m 73 #[.val (.int p0), .val (.int p1), .val (.int p2), .val (.int v1), .val (.ref u_BuiltInCall_BuiltIn_REGEX), .val (.int v92), .val (.int v94), .val (.int v96)] [(.int v96)])) t := by
              intro t kt
              show Steps p.tables e below (T284.setTop (mkF m 73 #[.val (.int p0), .val (.int p1), .val (.int p2), .val (.int v1), .val (.ref u_BuiltInCall_BuiltIn_REGEX), .val (.int v92), .val (.int v94), .val (.int v96)] [(.int v96)])) _
              refine XS.ifNo X284.here hx rfl (hb hby at_73) rfl ((if0 _ _).trans (feq hc73_98).1) ?_
              show Steps p.tables e below (T284.setTop (mkF m 76 #[.val (.int p0), .val (.int p1), .val (.int p2), .val (.int v1), .val (.ref u_BuiltInCall_BuiltIn_REGEX), .val (.int v92), .val (.int v94), .val (.int v96)] [])) _
              refine XS.iconst X284.here hx rfl (hb hby at_76) ?_
              show Steps p.tables e below (T284.setTop (mkF m 77 #[.val (.int p0), .val (.int p1), .val (.int p2), .val (.int v1), .val (.ref u_BuiltInCall_BuiltIn_REGEX), .val (.int v92), .val (.int v94), .val (.int v96)] [(.int (1 : Int32))])) _
              refine XS.goto X284.here hx rfl (pc0 := 77) (pc' := 81) rfl (hb hby at_77) (by decide) (by decide) ?_
              exact kt
            refine own_arm hgo287 ?_
            exact own_armEnd X284 N284 e284 (by rw [hv99.trans (if_neg hc73_98)]))
        have hgo289 : ∀ t, Steps p.tables e below (T288.setTop (mkF m 81 #[.val (.int p0), .val (.int p1), .val (.int p2), .val (.int v1), .val (.ref u_BuiltInCall_BuiltIn_REGEX), .val (.int v92), .val (.int v94), .val (.int v96)] [(.int v99)])) t → Steps p.tables e below (T284.setTop (mkF m 68 #[.val (.int p0), .val (.int p1), .val (.int p2), .val (.int v1), .val (.ref u_BuiltInCall_BuiltIn_REGEX), .val (.int v92), .val (.int v94), .val (.int v96)] [(.int v94)])) t := by
          intro t kt
          show Steps p.tables e below (T284.setTop (mkF m 68 #[.val (.int p0), .val (.int p1), .val (.int p2), .val (.int v1), .val (.ref u_BuiltInCall_BuiltIn_REGEX), .val (.int v92), .val (.int v94), .val (.int v96)] [(.int v94)])) _
          refine XS.ifNo X284.here hx rfl (hb hby at_68) rfl ((if0 _ _).trans (feq hc68_97).1) ?_
          show Steps p.tables e below (T284.setTop (mkF m 71 #[.val (.int p0), .val (.int p1), .val (.int p2), .val (.int v1), .val (.ref u_BuiltInCall_BuiltIn_REGEX), .val (.int v92), .val (.int v94), .val (.int v96)] [])) _
          refine XS.iload X284.here hx rfl (hb hby at_71) rfl ?_
          show Steps p.tables e below (T284.setTop (mkF m 73 #[.val (.int p0), .val (.int p1), .val (.int p2), .val (.int v1), .val (.ref u_BuiltInCall_BuiltIn_REGEX), .val (.int v92), .val (.int v94), .val (.int v96)] [(.int v96)])) _
          refine st288 _ ?_
          exact kt
        refine own_arm hgo289 ?_
        exact own_armEnd X288 N288 e288 (by rw [hv100.trans (if_neg hc68_97)]))
    have hgo291 : ∀ t, Steps p.tables e below (T290.setTop (mkF m 81 #[.val (.int p0), .val (.int p1), .val (.int p2), .val (.int v1), .val (.ref u_BuiltInCall_BuiltIn_REGEX), .val (.int v92), .val (.int v94), .val (.int v96)] [(.int v100)])) t → Steps p.tables e below (s₁.setTop (mkF m 9 #[.val (.int p0), .val (.int p1), .val (.int p2), .val (.int v1), .unset, .unset, .unset, .unset] [(.int v1)])) t := by
      intro t kt
      show Steps p.tables e below (s₁.setTop (mkF m 9 #[.val (.int p0), .val (.int p1), .val (.int p2), .val (.int v1), .unset, .unset, .unset, .unset] [(.int v1)])) _
      refine st274 _ ?_
      show Steps p.tables e below (T274.setTop (mkF m 12 #[.val (.int p0), .val (.int p1), .val (.int p2), .val (.int v1), .unset, .unset, .unset, .unset] [(.ref u_BuiltInCall_BuiltIn_REGEX)])) _
      refine XS.astore X274.here hx rfl (hb hby at_12) rfl rfl (l' := #[.val (.int p0), .val (.int p1), .val (.int p2), .val (.int v1), .val (.ref u_BuiltInCall_BuiltIn_REGEX), .unset, .unset, .unset]) rfl ?_
      show Steps p.tables e below (T274.setTop (mkF m 14 #[.val (.int p0), .val (.int p1), .val (.int p2), .val (.int v1), .val (.ref u_BuiltInCall_BuiltIn_REGEX), .unset, .unset, .unset] [])) _
      refine XS.iloadN X274.here hx rfl (hb hby at_14) rfl ?_
      show Steps p.tables e below (T274.setTop (mkF m 15 #[.val (.int p0), .val (.int p1), .val (.int p2), .val (.int v1), .val (.ref u_BuiltInCall_BuiltIn_REGEX), .unset, .unset, .unset] [(.int p2)])) _
      refine XS.bipush X274.here hx rfl (hb hby at_15) ?_
      show Steps p.tables e below (T274.setTop (mkF m 17 #[.val (.int p0), .val (.int p1), .val (.int p2), .val (.int v1), .val (.ref u_BuiltInCall_BuiltIn_REGEX), .unset, .unset, .unset] [(.int (7 : Int32)), (.int p2)])) _
      refine XS.iand X274.here hx rfl (hb hby at_17) rfl ?_
      show Steps p.tables e below (T274.setTop (mkF m 18 #[.val (.int p0), .val (.int p1), .val (.int p2), .val (.int v1), .val (.ref u_BuiltInCall_BuiltIn_REGEX), .unset, .unset, .unset] [(.int (p2 &&& (7 : Int32)))])) _
      refine XS.iconst X274.here hx rfl (hb hby at_18) ?_
      show Steps p.tables e below (T274.setTop (mkF m 19 #[.val (.int p0), .val (.int p1), .val (.int p2), .val (.int v1), .val (.ref u_BuiltInCall_BuiltIn_REGEX), .unset, .unset, .unset] [(.int (2 : Int32)), (.int (p2 &&& (7 : Int32)))])) _
      refine XS.isub X274.here hx rfl (hb hby at_19) rfl ?_
      show Steps p.tables e below (T274.setTop (mkF m 20 #[.val (.int p0), .val (.int p1), .val (.int p2), .val (.int v1), .val (.ref u_BuiltInCall_BuiltIn_REGEX), .unset, .unset, .unset] [(.int ((p2 &&& (7 : Int32)) - (2 : Int32)))])) _
      rw [← hv92]
      show Steps p.tables e below (T274.setTop (mkF m 20 #[.val (.int p0), .val (.int p1), .val (.int p2), .val (.int v1), .val (.ref u_BuiltInCall_BuiltIn_REGEX), .unset, .unset, .unset] [(.int v92)])) _
      refine XS.istore X274.here hx rfl (hb hby at_20) rfl (l' := #[.val (.int p0), .val (.int p1), .val (.int p2), .val (.int v1), .val (.ref u_BuiltInCall_BuiltIn_REGEX), .val (.int v92), .unset, .unset]) rfl ?_
      show Steps p.tables e below (T274.setTop (mkF m 22 #[.val (.int p0), .val (.int p1), .val (.int p2), .val (.int v1), .val (.ref u_BuiltInCall_BuiltIn_REGEX), .val (.int v92), .unset, .unset] [])) _
      refine XS.aload X274.here hx rfl (hb hby at_22) rfl rfl ?_
      show Steps p.tables e below (T274.setTop (mkF m 24 #[.val (.int p0), .val (.int p1), .val (.int p2), .val (.int v1), .val (.ref u_BuiltInCall_BuiltIn_REGEX), .val (.int v92), .unset, .unset] [(.ref u_BuiltInCall_BuiltIn_REGEX)])) _
      refine XS.iloadN X274.here hx rfl (hb hby at_24) rfl ?_
      show Steps p.tables e below (T274.setTop (mkF m 25 #[.val (.int p0), .val (.int p1), .val (.int p2), .val (.int v1), .val (.ref u_BuiltInCall_BuiltIn_REGEX), .val (.int v92), .unset, .unset] [(.int p1), (.ref u_BuiltInCall_BuiltIn_REGEX)])) _
      refine st275.trans ?_
      show Steps p.tables e below (T275.setTop (mkF m 28 #[.val (.int p0), .val (.int p1), .val (.int p2), .val (.int v1), .val (.ref u_BuiltInCall_BuiltIn_REGEX), .val (.int v92), .unset, .unset] [(.int (own_r2 p1 (2 : Int32) (3 : Int32)))])) _
      refine XS.iloadN X275.here hx rfl (hb hby at_28) rfl ?_
      show Steps p.tables e below (T275.setTop (mkF m 29 #[.val (.int p0), .val (.int p1), .val (.int p2), .val (.int v1), .val (.ref u_BuiltInCall_BuiltIn_REGEX), .val (.int v92), .unset, .unset] [(.int v1), (.int (own_r2 p1 (2 : Int32) (3 : Int32)))])) _
      refine XS.iloadN X275.here hx rfl (hb hby at_29) rfl ?_
      show Steps p.tables e below (T275.setTop (mkF m 30 #[.val (.int p0), .val (.int p1), .val (.int p2), .val (.int v1), .val (.ref u_BuiltInCall_BuiltIn_REGEX), .val (.int v92), .unset, .unset] [(.int p1), (.int v1), (.int (own_r2 p1 (2 : Int32) (3 : Int32)))])) _
      refine st276 _ ?_
      show Steps p.tables e below (T276.setTop (mkF m 33 #[.val (.int p0), .val (.int p1), .val (.int p2), .val (.int v1), .val (.ref u_BuiltInCall_BuiltIn_REGEX), .val (.int v92), .unset, .unset] [(.int (own_r3 v1 p1)), (.int (own_r2 p1 (2 : Int32) (3 : Int32)))])) _
      refine st279 _ ?_
      show Steps p.tables e below (T279.setTop (mkF m 41 #[.val (.int p0), .val (.int p1), .val (.int p2), .val (.int v1), .val (.ref u_BuiltInCall_BuiltIn_REGEX), .val (.int v92), .unset, .unset] [(.int v94)])) _
      refine XS.istore X279.here hx rfl (hb hby at_41) rfl (l' := #[.val (.int p0), .val (.int p1), .val (.int p2), .val (.int v1), .val (.ref u_BuiltInCall_BuiltIn_REGEX), .val (.int v92), .val (.int v94), .unset]) rfl ?_
      show Steps p.tables e below (T279.setTop (mkF m 43 #[.val (.int p0), .val (.int p1), .val (.int p2), .val (.int v1), .val (.ref u_BuiltInCall_BuiltIn_REGEX), .val (.int v92), .val (.int v94), .unset] [])) _
      refine XS.aload X279.here hx rfl (hb hby at_43) rfl rfl ?_
      show Steps p.tables e below (T279.setTop (mkF m 45 #[.val (.int p0), .val (.int p1), .val (.int p2), .val (.int v1), .val (.ref u_BuiltInCall_BuiltIn_REGEX), .val (.int v92), .val (.int v94), .unset] [(.ref u_BuiltInCall_BuiltIn_REGEX)])) _
      refine XS.iload X279.here hx rfl (hb hby at_45) rfl ?_
      show Steps p.tables e below (T279.setTop (mkF m 47 #[.val (.int p0), .val (.int p1), .val (.int p2), .val (.int v1), .val (.ref u_BuiltInCall_BuiltIn_REGEX), .val (.int v92), .val (.int v94), .unset] [(.int v92), (.ref u_BuiltInCall_BuiltIn_REGEX)])) _
      refine st280.trans ?_
      show Steps p.tables e below (T280.setTop (mkF m 50 #[.val (.int p0), .val (.int p1), .val (.int p2), .val (.int v1), .val (.ref u_BuiltInCall_BuiltIn_REGEX), .val (.int v92), .val (.int v94), .unset] [(.int (own_r2 v92 (2 : Int32) (3 : Int32)))])) _
      refine XS.iloadN X280.here hx rfl (hb hby at_50) rfl ?_
      show Steps p.tables e below (T280.setTop (mkF m 51 #[.val (.int p0), .val (.int p1), .val (.int p2), .val (.int v1), .val (.ref u_BuiltInCall_BuiltIn_REGEX), .val (.int v92), .val (.int v94), .unset] [(.int v1), (.int (own_r2 v92 (2 : Int32) (3 : Int32)))])) _
      refine XS.iload X280.here hx rfl (hb hby at_51) rfl ?_
      show Steps p.tables e below (T280.setTop (mkF m 53 #[.val (.int p0), .val (.int p1), .val (.int p2), .val (.int v1), .val (.ref u_BuiltInCall_BuiltIn_REGEX), .val (.int v92), .val (.int v94), .unset] [(.int v92), (.int v1), (.int (own_r2 v92 (2 : Int32) (3 : Int32)))])) _
      refine st281 _ ?_
      show Steps p.tables e below (T281.setTop (mkF m 56 #[.val (.int p0), .val (.int p1), .val (.int p2), .val (.int v1), .val (.ref u_BuiltInCall_BuiltIn_REGEX), .val (.int v92), .val (.int v94), .unset] [(.int (own_r3 v1 v92)), (.int (own_r2 v92 (2 : Int32) (3 : Int32)))])) _
      refine st284 _ ?_
      show Steps p.tables e below (T284.setTop (mkF m 64 #[.val (.int p0), .val (.int p1), .val (.int p2), .val (.int v1), .val (.ref u_BuiltInCall_BuiltIn_REGEX), .val (.int v92), .val (.int v94), .unset] [(.int v96)])) _
      refine XS.istore X284.here hx rfl (hb hby at_64) rfl (l' := #[.val (.int p0), .val (.int p1), .val (.int p2), .val (.int v1), .val (.ref u_BuiltInCall_BuiltIn_REGEX), .val (.int v92), .val (.int v94), .val (.int v96)]) rfl ?_
      show Steps p.tables e below (T284.setTop (mkF m 66 #[.val (.int p0), .val (.int p1), .val (.int p2), .val (.int v1), .val (.ref u_BuiltInCall_BuiltIn_REGEX), .val (.int v92), .val (.int v94), .val (.int v96)] [])) _
      refine XS.iload X284.here hx rfl (hb hby at_66) rfl ?_
      show Steps p.tables e below (T284.setTop (mkF m 68 #[.val (.int p0), .val (.int p1), .val (.int p2), .val (.int v1), .val (.ref u_BuiltInCall_BuiltIn_REGEX), .val (.int v92), .val (.int v94), .val (.int v96)] [(.int v94)])) _
      refine st290 _ ?_
      exact kt
    refine own_go hgo291 ?_
    have hz292 : v100 = 1 := own_leaf9 (p0 := p0) (p1 := p1) (p2 := p2) (u_BuiltInCall_BuiltIn_STR := u_BuiltInCall_BuiltIn_STR) (u_BuiltInCall_BuiltIn_LANG := u_BuiltInCall_BuiltIn_LANG) (u_BuiltInCall_BuiltIn_SAME_TERM := u_BuiltInCall_BuiltIn_SAME_TERM) (u_BuiltInCall_BuiltIn_IS_IRI := u_BuiltInCall_BuiltIn_IS_IRI) (u_BuiltInCall_BuiltIn_IS_LITERAL := u_BuiltInCall_BuiltIn_IS_LITERAL) (u_BuiltInCall_BuiltIn_DATATYPE := u_BuiltInCall_BuiltIn_DATATYPE) (u_BuiltInCall_BuiltIn_IS_URI := u_BuiltInCall_BuiltIn_IS_URI) (u_BuiltInCall_BuiltIn_IS_BLANK := u_BuiltInCall_BuiltIn_IS_BLANK) (u_BuiltInCall_BuiltIn_REGEX := u_BuiltInCall_BuiltIn_REGEX) (u_BuiltInCall_BuiltIn_LANG_MATCHES := u_BuiltInCall_BuiltIn_LANG_MATCHES) hv1 hv92 hv94 hv96 hv99 hv100 hs9_2 hs9_12 hs9_22 hs9_32 hs9_42 hs9_52 hs9_62 hs9_72 hs9_82
    exact own_retZ X290 hx Bd.returns Bd.notSynchronized (hb hby at_81) (by decide) (by decide) (Or.inr hz292) ⟨by rw [hz292], N290⟩
set_option maxRecDepth 65536 in
set_option maxHeartbeats 40000000 in
theorem comes_1 {Post : Tables → Env → Array Value → State → Outcome → State → Prop} (hpost : ∀ tb e args s v u, (limb_1_1.after args s (.returned v) u = true ∧ limb_1_2.after args s (.returned v) u = true ∧ True) → FrameEnd s (.returned v) u (Jvm.fieldLocs frame_1_writes args s ++ Jvm.arrayLocs frame_1_arrays args s ++ Jvm.staticLocs frame_1_statics s) 0 0 → Post tb e args s (.returned v) u) :
    ArmFor flags0 classFile x code maxLocals ret World_1 tables_1 room_1 Calls_1 rest_1 Pre_1 Post := by
  intro l hfl _ _ p e ha hc hk s m args below hf hA hF happ hP
  obtain ⟨hcalls, hrest, hpre⟩ := hP
  obtain ⟨-, -, -, hnamed, -, -, -, hat⟩ := (Spec.applies_iff hf).mp happ
  obtain ⟨hg, hn⟩ := and_e (Cond.before_iff.mp (show (Jvm.Cond.and given_1 narrow_1).before args s = true from hpre))
  obtain ⟨gg1, gg2⟩ := and_e hg
  obtain ⟨gg3, gg4⟩ := and_e gg2
  obtain ⟨gg5, gg6⟩ := and_e gg4
  obtain ⟨gg7, gg8⟩ := and_e hn
  obtain ⟨gg9, gg10⟩ := and_e gg8
  obtain ⟨gg11, gg12⟩ := and_e gg10
  obtain ⟨gg13, gg14⟩ := and_e gg12
  obtain ⟨gg15, gg16⟩ := and_e gg14
  obtain ⟨gg17, gg18⟩ := and_e gg16
  obtain ⟨gg19, gg20⟩ := and_e gg18
  obtain ⟨gg21, gg22⟩ := and_e gg20
  obtain ⟨gg23, gg24⟩ := and_e gg22
  obtain ⟨gg25, gg26⟩ := and_e gg24
  obtain ⟨gg27, gg28⟩ := and_e gg26
  obtain ⟨gg29, gg30⟩ := and_e gg28
  obtain ⟨gg31, gg32⟩ := and_e gg30
  obtain ⟨gg33, gg34⟩ := and_e gg32
  obtain ⟨gg35, gg36⟩ := and_e gg34
  obtain ⟨gg37, gg38⟩ := and_e gg36
  obtain ⟨gg39, gg40⟩ := and_e gg38
  obtain ⟨gg41, gg42⟩ := and_e gg40
  obtain ⟨gg43, gg44⟩ := and_e gg42
  obtain ⟨gg45, gg46⟩ := and_e gg44
  obtain ⟨gg47, gg48⟩ := and_e gg46
  obtain ⟨gg49, gg50⟩ := and_e gg48
  obtain ⟨gg51, gg52⟩ := and_e gg50
  obtain ⟨gg53, gg54⟩ := and_e gg52
  obtain ⟨gg55, gg56⟩ := and_e gg54
  obtain ⟨gg57, gg58⟩ := and_e gg56
  obtain ⟨gg59, gg60⟩ := and_e gg58
  obtain ⟨gg61, gg62⟩ := and_e gg60
  obtain ⟨gg63, gg64⟩ := and_e gg62
  obtain ⟨w0, w1, w2, rfl⟩ : ∃ w0 w1 w2 : Value, args = #[w0, w1, w2] := by
    have hs : args.size = 3 := by simpa [Cond.value, given_1] using gg1
    obtain ⟨L⟩ := args
    match L, hs with
    | [w0, w1, w2], _ => exact ⟨w0, w1, w2, rfl⟩
  have hw := fun d (hd : d ∈ tables_1) => atoms_spec (ws := Jvm.Cond.code x code maxLocals ret :: tables_1) hat d (List.mem_cons_of_mem _ hd)
  have hfit : Fit s := fun {y c} hc i hi => by
    obtain ⟨ha, rfl⟩ := Array.getElem?_eq_some_iff.mp hc
    have q := List.all_eq_true.mp ((Array.all_eq_true_iff_forall_mem.mp hF) _ (Array.getElem_mem ha)) i (List.mem_range.mpr hi)
    simpa [Array.getElem?_eq_getElem hi] using q
  obtain ⟨i0, ei0⟩ := is_v gg3
  obtain rfl : w0 = (.int i0) := Option.some.inj ei0
  obtain ⟨i1, ei1⟩ := is_v gg5
  obtain rfl : w1 = (.int i1) := Option.some.inj ei1
  obtain ⟨i2, ei2⟩ := is_v gg6
  obtain rfl : w2 = (.int i2) := Option.some.inj ei2
  obtain ⟨u_BuiltInCall_BuiltIn_STR, eu_BuiltInCall_BuiltIn_STR⟩ := exa_v gg7
  obtain ⟨u_BuiltInCall_BuiltIn_LANG, eu_BuiltInCall_BuiltIn_LANG⟩ := exa_v gg13
  obtain ⟨u_BuiltInCall_BuiltIn_SAME_TERM, eu_BuiltInCall_BuiltIn_SAME_TERM⟩ := exa_v gg19
  obtain ⟨u_BuiltInCall_BuiltIn_IS_IRI, eu_BuiltInCall_BuiltIn_IS_IRI⟩ := exa_v gg25
  obtain ⟨u_BuiltInCall_BuiltIn_IS_LITERAL, eu_BuiltInCall_BuiltIn_IS_LITERAL⟩ := exa_v gg31
  obtain ⟨u_BuiltInCall_BuiltIn_DATATYPE, eu_BuiltInCall_BuiltIn_DATATYPE⟩ := exa_v gg37
  obtain ⟨u_BuiltInCall_BuiltIn_IS_URI, eu_BuiltInCall_BuiltIn_IS_URI⟩ := exa_v gg43
  obtain ⟨u_BuiltInCall_BuiltIn_IS_BLANK, eu_BuiltInCall_BuiltIn_IS_BLANK⟩ := exa_v gg49
  obtain ⟨u_BuiltInCall_BuiltIn_REGEX, eu_BuiltInCall_BuiltIn_REGEX⟩ := exa_v gg55
  obtain ⟨u_BuiltInCall_BuiltIn_LANG_MATCHES, eu_BuiltInCall_BuiltIn_LANG_MATCHES⟩ := exa_v gg61
  obtain ⟨n, o, h1, h2, h3, _, L, rfl, ⟨rfl, N⟩, hq⟩ := rm0 l s _ hw tables_1 i0 i1 i2 u_BuiltInCall_BuiltIn_STR u_BuiltInCall_BuiltIn_LANG u_BuiltInCall_BuiltIn_SAME_TERM u_BuiltInCall_BuiltIn_IS_IRI u_BuiltInCall_BuiltIn_IS_LITERAL u_BuiltInCall_BuiltIn_DATATYPE u_BuiltInCall_BuiltIn_IS_URI u_BuiltInCall_BuiltIn_IS_BLANK u_BuiltInCall_BuiltIn_REGEX u_BuiltInCall_BuiltIn_LANG_MATCHES s.heap s.heap.size (Nat.le_refl _) (Sta.start eu_BuiltInCall_BuiltIn_STR (Or.inr ⟨(hw _ (List.mem_of_getElem? (i := 6) rfl)), (hw _ (List.mem_of_getElem? (i := 7) rfl))⟩)) (Exa.start eu_BuiltInCall_BuiltIn_STR gg7) (Sta.start eu_BuiltInCall_BuiltIn_LANG (Or.inr ⟨(hw _ (List.mem_of_getElem? (i := 6) rfl)), (hw _ (List.mem_of_getElem? (i := 21) rfl))⟩)) (Exa.start eu_BuiltInCall_BuiltIn_LANG gg13) (Sta.start eu_BuiltInCall_BuiltIn_SAME_TERM (Or.inr ⟨(hw _ (List.mem_of_getElem? (i := 6) rfl)), (hw _ (List.mem_of_getElem? (i := 23) rfl))⟩)) (Exa.start eu_BuiltInCall_BuiltIn_SAME_TERM gg19) (Sta.start eu_BuiltInCall_BuiltIn_IS_IRI (Or.inr ⟨(hw _ (List.mem_of_getElem? (i := 6) rfl)), (hw _ (List.mem_of_getElem? (i := 25) rfl))⟩)) (Exa.start eu_BuiltInCall_BuiltIn_IS_IRI gg25) (Sta.start eu_BuiltInCall_BuiltIn_IS_LITERAL (Or.inr ⟨(hw _ (List.mem_of_getElem? (i := 6) rfl)), (hw _ (List.mem_of_getElem? (i := 27) rfl))⟩)) (Exa.start eu_BuiltInCall_BuiltIn_IS_LITERAL gg31) (Sta.start eu_BuiltInCall_BuiltIn_DATATYPE (Or.inr ⟨(hw _ (List.mem_of_getElem? (i := 6) rfl)), (hw _ (List.mem_of_getElem? (i := 29) rfl))⟩)) (Exa.start eu_BuiltInCall_BuiltIn_DATATYPE gg37) (Sta.start eu_BuiltInCall_BuiltIn_IS_URI (Or.inr ⟨(hw _ (List.mem_of_getElem? (i := 6) rfl)), (hw _ (List.mem_of_getElem? (i := 31) rfl))⟩)) (Exa.start eu_BuiltInCall_BuiltIn_IS_URI gg43) (Sta.start eu_BuiltInCall_BuiltIn_IS_BLANK (Or.inr ⟨(hw _ (List.mem_of_getElem? (i := 6) rfl)), (hw _ (List.mem_of_getElem? (i := 33) rfl))⟩)) (Exa.start eu_BuiltInCall_BuiltIn_IS_BLANK gg49) (Sta.start eu_BuiltInCall_BuiltIn_REGEX (Or.inr ⟨(hw _ (List.mem_of_getElem? (i := 6) rfl)), (hw _ (List.mem_of_getElem? (i := 35) rfl))⟩)) (Exa.start eu_BuiltInCall_BuiltIn_REGEX gg55) (Sta.start eu_BuiltInCall_BuiltIn_LANG_MATCHES (Or.inr ⟨(hw _ (List.mem_of_getElem? (i := 6) rfl)), (hw _ (List.mem_of_getElem? (i := 37) rfl))⟩)) (Exa.start eu_BuiltInCall_BuiltIn_LANG_MATCHES gg61) (own_fldI eu_BuiltInCall_BuiltIn_STR gg9) (own_fldI eu_BuiltInCall_BuiltIn_STR gg11) (own_fldI eu_BuiltInCall_BuiltIn_LANG gg15) (own_fldI eu_BuiltInCall_BuiltIn_LANG gg17) (own_fldI eu_BuiltInCall_BuiltIn_SAME_TERM gg21) (own_fldI eu_BuiltInCall_BuiltIn_SAME_TERM gg23) (own_fldI eu_BuiltInCall_BuiltIn_IS_IRI gg27) (own_fldI eu_BuiltInCall_BuiltIn_IS_IRI gg29) (own_fldI eu_BuiltInCall_BuiltIn_IS_LITERAL gg33) (own_fldI eu_BuiltInCall_BuiltIn_IS_LITERAL gg35) (own_fldI eu_BuiltInCall_BuiltIn_DATATYPE gg39) (own_fldI eu_BuiltInCall_BuiltIn_DATATYPE gg41) (own_fldI eu_BuiltInCall_BuiltIn_IS_URI gg45) (own_fldI eu_BuiltInCall_BuiltIn_IS_URI gg47) (own_fldI eu_BuiltInCall_BuiltIn_IS_BLANK gg51) (own_fldI eu_BuiltInCall_BuiltIn_IS_BLANK gg53) (own_fldI eu_BuiltInCall_BuiltIn_REGEX gg57) (own_fldI eu_BuiltInCall_BuiltIn_REGEX gg59) (own_fldI eu_BuiltInCall_BuiltIn_LANG_MATCHES gg63) (own_fldI eu_BuiltInCall_BuiltIn_LANG_MATCHES gg64) p e ha hc hk s m _ below hf ((Spec.applies_iff_loose hf).mp happ).1 ⟨rfl, State.Warmed39.refl s, rfl⟩ trivial
  refine ⟨n, _, h1, h2, h3, hpost _ _ _ _ _ _ ⟨Cond.after_iff.mpr rfl, Cond.after_iff.mpr (eq_i res_at (Term.int_eval (1)) rfl), trivial⟩ ⟨hq.1, hq.2.1, (hq.2.2.sift fun y hy => Or.inr (N y hy)).mono (by decide) (by decide)⟩⟩
theorem main_1_1 : Claimed_1_1 := comes_1 fun _ _ _ _ _ _ h hF => ⟨h.1, hF⟩
theorem main_1_2 : Claimed_1_2 := comes_1 fun _ _ _ _ _ _ h hF => ⟨h.2.1, hF⟩
end Jvm.Pilot.@@N@@
namespace Jvm.Pilot.@@N@@
open Jvm Jvm.ClassFile Sem Op Lib Jvm.Free Jvm.Stand Jvm.Pilot.@@N@@.Jvm.D
/-! MADE BY PROGRAM (witnessworld.py) out of the Statement's table words and the real class files: 12 classes; the members and pool entries that the words name. The judged class is class 1, her method 3. -/
namespace start1
open Jvm.ClassFile
def u (s : String) : CpInfo := .utf8 (stringToUtf16 s)
/-- a pool by its gaps: so many unusable entries, then the entry; so many at the end -/
def gap : Nat → List CpInfo → List CpInfo
  | 0, r => r
  | n + 1, r => .unusable :: gap n r
def poolList (es : List (Nat × CpInfo)) (last : Nat) : List CpInfo := es.foldr (fun e r => gap e.1 (e.2 :: r)) (gap last [])
def pool (es : List (Nat × CpInfo)) (last : Nat) : Array CpInfo := ⟨poolList es last⟩
def fileOf (pool : Array CpInfo) (this : Nat) (attrs : Array Attribute := #[]) (ms : Array MethodInfo := #[]) (fl : Nat := 33) (sup : Nat := 0) (ifs : Array Nat := #[]) (fds : Array FieldInfo := #[]) : ClassFile where
  minorVersion := 0
  majorVersion := 65
  constantPool := pool
  accessFlags := fl
  thisClass := this
  superClass := sup
  interfaces := ifs
  fields := fds
  methods := ms
  attributes := attrs
def plain (name : String) (sup : Option ClassId) : Class where
  name := name
  kind := .ordinary
  loader := none
  accessFlags := 33
  super := sup
  interfaces := #[]
  cf := none
  fields := #[]
  methods := #[]
  instanceTypes := #[]
  staticTypes := #[]
  resolved := #[]
  callSites := []
  init := .initialized
  statics := none
  mirror := none

def pool0 : Array CpInfo := pool [(5, u "<init>"), (0, u "()V"), (1, .class_ 10), (1, u "java/lang/Object")] 113

def k0m0 : Method := { name := "<init>", desc := "()V", sig := { parameters := [], returnType := none }, accessFlags := 1, code := none }
/-- java/lang/Object -/
def k0 : Class := { plain "java/lang/Object" none with
  accessFlags := 33
  interfaces := #[]
  cf := some (fileOf pool0 8 #[] #[{ accessFlags := 1, nameIndex := 5, descriptorIndex := 6, attributes := #[] }] 33 0 #[] #[])
  fields := #[]
  methods := #[k0m0]
  instanceTypes := #[]
  staticTypes := #[]
  resolved := Array.replicate 124 none
  statics := none }

def pool1 : Array CpInfo := pool [(2, .class_ 4), (1, u "java/lang/Object"), (0, u "<init>"), (0, u "()V"), (0, .fieldref 8 9), (0, .class_ 10), (0, .nameAndType 11 12), (0, u "com/example/muset/muset/sparql/BuiltInCall$BuiltIn"), (0, u "STR"), (0, u "Lcom/example/muset/muset/sparql/BuiltInCall$BuiltIn;"), (0, .fieldref 8 14), (0, .nameAndType 15 12), (0, u "LANG"), (0, .fieldref 8 17), (0, .nameAndType 18 12), (0, u "LANG_MATCHES"), (0, .fieldref 8 20), (0, .nameAndType 21 12), (0, u "DATATYPE"), (0, .fieldref 8 23), (0, .nameAndType 24 12), (0, u "SAME_TERM"), (0, .fieldref 8 26), (0, .nameAndType 27 12), (0, u "IS_IRI"), (0, .fieldref 8 29), (0, .nameAndType 30 12), (0, u "IS_URI"), (0, .fieldref 8 32), (0, .nameAndType 33 12), (0, u "IS_BLANK"), (0, .fieldref 8 35), (0, .nameAndType 36 12), (0, u "IS_LITERAL"), (0, .fieldref 8 38), (0, .nameAndType 39 12), (0, u "REGEX"), (0, .integer 2147483647), (0, .methodref 42 43), (0, .class_ 44), (0, .nameAndType 45 46), (0, u "com/example/muset/muset/sparql/BuiltInTakesPinLaw"), (0, u "pick"), (0, u "(I)Lcom/example/muset/muset/sparql/BuiltInCall$BuiltIn;"), (0, .methodref 8 48), (0, .nameAndType 49 50), (0, u "takes"), (0, u "(I)Z"), (0, .methodref 42 52), (0, .nameAndType 53 54), (0, u "expected"), (0, u "(II)Z"), (3, u "law"), (0, u "(III)Z")] 6

def k1m0 : Method := { name := "<init>", desc := "()V", sig := { parameters := [], returnType := none }, accessFlags := 2, code := none }
def k1c1 : Code := { maxStack := 2, maxLocals := 1, code := method_2_code, exceptionTable := #[], attributes := #[] }
def k1m1 : Method := { name := "pick", desc := "(I)Lcom/example/muset/muset/sparql/BuiltInCall$BuiltIn;", sig := { parameters := [.int], returnType := some (.object "com/example/muset/muset/sparql/BuiltInCall$BuiltIn") }, accessFlags := 10, code := some k1c1 }
def k1c2 : Code := { maxStack := 2, maxLocals := 2, code := method_3_code, exceptionTable := #[], attributes := #[] }
def k1m2 : Method := { name := "expected", desc := "(II)Z", sig := { parameters := [.int, .int], returnType := some .boolean }, accessFlags := 10, code := some k1c2 }
def k1c3 : Code := { maxStack := 3, maxLocals := 8, code := code, exceptionTable := #[], attributes := #[] }
def k1m3 : Method := { name := "law", desc := "(III)Z", sig := { parameters := [.int, .int, .int], returnType := some .boolean }, accessFlags := 9, code := some k1c3 }
/-- com/example/muset/muset/sparql/BuiltInTakesPinLaw -/
def k1 : Class := { plain "com/example/muset/muset/sparql/BuiltInTakesPinLaw" (some 0) with
  accessFlags := 49
  interfaces := #[]
  cf := some (fileOf pool1 42 #[] #[{ accessFlags := 2, nameIndex := 5, descriptorIndex := 6, attributes := #[] }, { accessFlags := 10, nameIndex := 45, descriptorIndex := 46, attributes := #[] }, { accessFlags := 10, nameIndex := 53, descriptorIndex := 54, attributes := #[] }, { accessFlags := 9, nameIndex := 58, descriptorIndex := 59, attributes := #[] }] 49 2 #[] #[])
  fields := #[]
  methods := #[k1m0, k1m1, k1m2, k1m3]
  instanceTypes := #[]
  staticTypes := #[]
  resolved := Array.replicate 66 none
  statics := none }

def pool2 : Array CpInfo := pool [(1, .class_ 2), (0, u "java/lang/constant/Constable"), (0, .class_ 4), (0, u "java/lang/Object")] 6

/-- java/lang/constant/Constable -/
def k2 : Class := { plain "java/lang/constant/Constable" (some 0) with
  accessFlags := 1537
  interfaces := #[]
  cf := some (fileOf pool2 1 #[] #[] 1537 3 #[] #[])
  fields := #[]
  methods := #[]
  instanceTypes := #[]
  staticTypes := #[]
  resolved := Array.replicate 11 none
  statics := none }

def pool3 : Array CpInfo := pool [(1, .class_ 2), (0, u "java/lang/Comparable"), (0, .class_ 4), (0, u "java/lang/Object")] 7

/-- java/lang/Comparable -/
def k3 : Class := { plain "java/lang/Comparable" (some 0) with
  accessFlags := 1537
  interfaces := #[]
  cf := some (fileOf pool3 1 #[] #[] 1537 3 #[] #[])
  fields := #[]
  methods := #[]
  instanceTypes := #[]
  staticTypes := #[]
  resolved := Array.replicate 12 none
  statics := none }

def pool4 : Array CpInfo := pool [(1, .class_ 2), (0, u "java/io/Serializable"), (0, .class_ 4), (0, u "java/lang/Object")] 2

/-- java/io/Serializable -/
def k4 : Class := { plain "java/io/Serializable" (some 0) with
  accessFlags := 1537
  interfaces := #[]
  cf := some (fileOf pool4 1 #[] #[] 1537 3 #[] #[])
  fields := #[]
  methods := #[]
  instanceTypes := #[]
  staticTypes := #[]
  resolved := Array.replicate 7 none
  statics := none }

def pool5 : Array CpInfo := pool [(2, .class_ 4), (1, u "java/lang/Enum"), (0, u "name"), (0, u "Ljava/lang/String;"), (2, u "ordinal"), (0, u "I"), (1, .class_ 14), (1, u "java/lang/Object"), (4, u "hash"), (86, .class_ 108), (1, u "java/lang/Enum$EnumDesc"), (2, .class_ 112), (0, u "java/lang/constant/Constable"), (0, .class_ 114), (0, u "java/lang/Comparable"), (0, .class_ 116), (0, u "java/io/Serializable")] 87

/-- java/lang/Enum -/
def k5 : Class := { plain "java/lang/Enum" (some 0) with
  accessFlags := 1057
  interfaces := #[2, 3, 4]
  cf := some (fileOf pool5 2 #[.nestMembers #[106]] #[] 1057 12 #[111, 113, 115] #[{ accessFlags := 18, nameIndex := 5, descriptorIndex := 6, attributes := #[] }, { accessFlags := 18, nameIndex := 9, descriptorIndex := 10, attributes := #[] }, { accessFlags := 2, nameIndex := 19, descriptorIndex := 10, attributes := #[] }])
  fields := #[{ name := "name", type := (.object "java/lang/String"), accessFlags := 18, slot := 0, constantValue := 0 }, { name := "ordinal", type := .int, accessFlags := 18, slot := 1, constantValue := 0 }, { name := "hash", type := .int, accessFlags := 2, slot := 2, constantValue := 0 }]
  methods := #[]
  instanceTypes := #[(.object "java/lang/String"), .int, .int]
  staticTypes := #[]
  resolved := Array.replicate 204 none
  statics := none }

def pool6 : Array CpInfo := pool [(1, .class_ 2), (0, u "com/example/muset/muset/sparql/BuiltInCall$BuiltIn"), (2, u "STR"), (0, u "Lcom/example/muset/muset/sparql/BuiltInCall$BuiltIn;"), (2, u "LANG"), (2, u "LANG_MATCHES"), (2, u "DATATYPE"), (2, u "SAME_TERM"), (2, u "IS_IRI"), (2, u "IS_URI"), (2, u "IS_BLANK"), (2, u "IS_LITERAL"), (2, u "REGEX"), (2, u "$VALUES"), (0, u "[Lcom/example/muset/muset/sparql/BuiltInCall$BuiltIn;"), (6, .class_ 46), (1, u "java/lang/Enum"), (8, u "keyword"), (0, u "Ljava/lang/String;"), (0, .fieldref 1 58), (0, .nameAndType 59 60), (0, u "minArguments"), (0, u "I"), (0, .fieldref 1 62), (0, .nameAndType 63 60), (0, u "maxArguments"), (51, u "takes"), (0, u "(I)Z"), (10, .class_ 128), (0, u "com/example/muset/muset/sparql/BuiltInCall")] 20

def k6c0 : Code := { maxStack := 2, maxLocals := 2, code := prog_85_method_5_code, exceptionTable := #[], attributes := #[] }
def k6m0 : Method := { name := "takes", desc := "(I)Z", sig := { parameters := [.int], returnType := some .boolean }, accessFlags := 1, code := some k6c0 }
/-- com/example/muset/muset/sparql/BuiltInCall$BuiltIn -/
def k6 : Class := { plain "com/example/muset/muset/sparql/BuiltInCall$BuiltIn" (some 5) with
  accessFlags := 16433
  interfaces := #[]
  cf := some (fileOf pool6 1 #[.nestHost 127] #[{ accessFlags := 1, nameIndex := 115, descriptorIndex := 116, attributes := #[] }] 16433 44 #[] #[{ accessFlags := 16409, nameIndex := 5, descriptorIndex := 6, attributes := #[] }, { accessFlags := 16409, nameIndex := 9, descriptorIndex := 6, attributes := #[] }, { accessFlags := 16409, nameIndex := 12, descriptorIndex := 6, attributes := #[] }, { accessFlags := 16409, nameIndex := 15, descriptorIndex := 6, attributes := #[] }, { accessFlags := 16409, nameIndex := 18, descriptorIndex := 6, attributes := #[] }, { accessFlags := 16409, nameIndex := 21, descriptorIndex := 6, attributes := #[] }, { accessFlags := 16409, nameIndex := 24, descriptorIndex := 6, attributes := #[] }, { accessFlags := 16409, nameIndex := 27, descriptorIndex := 6, attributes := #[] }, { accessFlags := 16409, nameIndex := 30, descriptorIndex := 6, attributes := #[] }, { accessFlags := 16409, nameIndex := 33, descriptorIndex := 6, attributes := #[] }, { accessFlags := 18, nameIndex := 55, descriptorIndex := 56, attributes := #[] }, { accessFlags := 18, nameIndex := 59, descriptorIndex := 60, attributes := #[] }, { accessFlags := 18, nameIndex := 63, descriptorIndex := 60, attributes := #[] }, { accessFlags := 4122, nameIndex := 36, descriptorIndex := 37, attributes := #[] }])
  fields := #[{ name := "STR", type := (.object "com/example/muset/muset/sparql/BuiltInCall$BuiltIn"), accessFlags := 16409, slot := 0, constantValue := 0 }, { name := "LANG", type := (.object "com/example/muset/muset/sparql/BuiltInCall$BuiltIn"), accessFlags := 16409, slot := 1, constantValue := 0 }, { name := "LANG_MATCHES", type := (.object "com/example/muset/muset/sparql/BuiltInCall$BuiltIn"), accessFlags := 16409, slot := 2, constantValue := 0 }, { name := "DATATYPE", type := (.object "com/example/muset/muset/sparql/BuiltInCall$BuiltIn"), accessFlags := 16409, slot := 3, constantValue := 0 }, { name := "SAME_TERM", type := (.object "com/example/muset/muset/sparql/BuiltInCall$BuiltIn"), accessFlags := 16409, slot := 4, constantValue := 0 }, { name := "IS_IRI", type := (.object "com/example/muset/muset/sparql/BuiltInCall$BuiltIn"), accessFlags := 16409, slot := 5, constantValue := 0 }, { name := "IS_URI", type := (.object "com/example/muset/muset/sparql/BuiltInCall$BuiltIn"), accessFlags := 16409, slot := 6, constantValue := 0 }, { name := "IS_BLANK", type := (.object "com/example/muset/muset/sparql/BuiltInCall$BuiltIn"), accessFlags := 16409, slot := 7, constantValue := 0 }, { name := "IS_LITERAL", type := (.object "com/example/muset/muset/sparql/BuiltInCall$BuiltIn"), accessFlags := 16409, slot := 8, constantValue := 0 }, { name := "REGEX", type := (.object "com/example/muset/muset/sparql/BuiltInCall$BuiltIn"), accessFlags := 16409, slot := 9, constantValue := 0 }, { name := "keyword", type := (.object "java/lang/String"), accessFlags := 18, slot := 3, constantValue := 0 }, { name := "minArguments", type := .int, accessFlags := 18, slot := 4, constantValue := 0 }, { name := "maxArguments", type := .int, accessFlags := 18, slot := 5, constantValue := 0 }, { name := "$VALUES", type := (.array (.object "com/example/muset/muset/sparql/BuiltInCall$BuiltIn")), accessFlags := 4122, slot := 10, constantValue := 0 }]
  methods := #[k6m0]
  instanceTypes := #[(.object "java/lang/String"), .int, .int, (.object "java/lang/String"), .int, .int]
  staticTypes := #[(.object "com/example/muset/muset/sparql/BuiltInCall$BuiltIn"), (.object "com/example/muset/muset/sparql/BuiltInCall$BuiltIn"), (.object "com/example/muset/muset/sparql/BuiltInCall$BuiltIn"), (.object "com/example/muset/muset/sparql/BuiltInCall$BuiltIn"), (.object "com/example/muset/muset/sparql/BuiltInCall$BuiltIn"), (.object "com/example/muset/muset/sparql/BuiltInCall$BuiltIn"), (.object "com/example/muset/muset/sparql/BuiltInCall$BuiltIn"), (.object "com/example/muset/muset/sparql/BuiltInCall$BuiltIn"), (.object "com/example/muset/muset/sparql/BuiltInCall$BuiltIn"), (.object "com/example/muset/muset/sparql/BuiltInCall$BuiltIn"), (.array (.object "com/example/muset/muset/sparql/BuiltInCall$BuiltIn"))]
  resolved := Array.replicate 149 none
  statics := some 0 }

def pool7 : Array CpInfo := pool [(1, u "java/lang/Cloneable"), (0, .class_ 1), (0, u "java/lang/Object"), (0, .class_ 3)] 3

/-- java/lang/Cloneable -/
def k7 : Class := { plain "java/lang/Cloneable" (some 0) with
  accessFlags := 1537
  interfaces := #[]
  cf := some (fileOf pool7 2 #[] #[] 1537 4 #[] #[])
  fields := #[]
  methods := #[]
  instanceTypes := #[]
  staticTypes := #[]
  resolved := Array.replicate 8 none
  statics := none }

/-- the primitive byte -/
def k8 : Class := { plain "byte" none with kind := .primitive 'B', accessFlags := 0x411 }
/-- [B -/
def k9 : Class := { plain "[B" (some 0) with kind := .array 8 .byte, interfaces := #[7, 4], accessFlags := 1041 }

/-- the primitive int -/
def k10 : Class := { plain "int" none with kind := .primitive 'I', accessFlags := 0x411 }
/-- [I -/
def k11 : Class := { plain "[I" (some 0) with kind := .array 10 .int, interfaces := #[7, 4], accessFlags := 1041 }

def heap : Heap := #[{ cls := 6, slots := #[.ref 1, .ref 2, .ref 3, .ref 4, .ref 5, .ref 6, .ref 7, .ref 8, .ref 9, .ref 10, .null], vm := .statics 6 },
  { cls := 6, slots := #[.null, .int 0, .int 0, .null, .int 1, .int 1], vm := .none },
  { cls := 6, slots := #[.null, .int 1, .int 0, .null, .int 1, .int 1], vm := .none },
  { cls := 6, slots := #[.null, .int 2, .int 0, .null, .int 2, .int 2], vm := .none },
  { cls := 6, slots := #[.null, .int 3, .int 0, .null, .int 1, .int 1], vm := .none },
  { cls := 6, slots := #[.null, .int 4, .int 0, .null, .int 2, .int 2], vm := .none },
  { cls := 6, slots := #[.null, .int 5, .int 0, .null, .int 1, .int 1], vm := .none },
  { cls := 6, slots := #[.null, .int 6, .int 0, .null, .int 1, .int 1], vm := .none },
  { cls := 6, slots := #[.null, .int 7, .int 0, .null, .int 1, .int 1], vm := .none },
  { cls := 6, slots := #[.null, .int 8, .int 0, .null, .int 1, .int 1], vm := .none },
  { cls := 6, slots := #[.null, .int 9, .int 0, .null, .int 2, .int 3], vm := .none }]
def classes : Array Class := #[k0, k1, k2, k3, k4, k5, k6, k7, k8, k9, k10, k11]
def interned : List (Array UInt16 × Addr) := []
def slotsUsed : Nat := 71
def theMethod : MethodId := ⟨1, 3⟩
def args0 : Array Value := #[.int 5, .int 5, .int 5]
def aboutOver (below : List Frame) : State where
  vm := { classes := classes, interned := interned.toArray }
  heap := heap
  slotsUsed := slotsUsed
  threads := #[{ frames := .invoking theMethod args0 :: below }]
def below0 : List Frame := [.native { method := ⟨0, 0⟩, args := #[] }]
def about1 : State := aboutOver below0
def p0 : Program := .bare "" "" ""
def e0 : Env := launch0.env 0 0 0
theorem w_frames : about1.frames = Frame.invoking theMethod args0 :: below0 := rfl
set_option maxRecDepth 65536 in
theorem w_args : argsFit about1.vm theMethod args0 = true := by decide +kernel
set_option maxRecDepth 65536 in
theorem w_heap : heapFits about1 = true := by decide +kernel
set_option maxRecDepth 65536 in
theorem w_runnable : about1.curStatus? = some .runnable := by decide +kernel
set_option maxRecDepth 65536 in
theorem w_alone : about1.alone = true := by decide +kernel
set_option maxRecDepth 65536 in
theorem w_named : about1.methodNamed? x = some theMethod := by decide +kernel
set_option maxRecDepth 65536 in
theorem w_hears : about1.hears theMethod below0 = true := by decide +kernel
set_option maxRecDepth 65536 in
theorem w_ripe : about1.ripe theMethod args0 below0 = true := by decide +kernel
theorem w_running : about1.status = .running := rfl
set_option maxRecDepth 65536 in
theorem w_room : about1.hasRoom e0.platform room_1 = true :=
  launch0.hasRoom_least _ room_1 (by decide +kernel) (by decide +kernel) (by decide +kernel) (by decide +kernel) (by decide +kernel) (by decide +kernel)
theorem allAtoms_all (ts : List Jvm.Cond) (a : Array Jvm.Value) (st : Jvm.State) : (allAtoms ts).before a st = ts.all (fun c => c.before a st) := by
  induction ts with
  | nil => rfl
  | cons c t ih =>
    show (Jvm.Cond.and c (allAtoms t)).before a st = _
    rw [Jvm.Cond.before_and, ih, List.all_cons]
def words1 : List Jvm.Cond := Jvm.Cond.code x code maxLocals ret :: tables_1
/-- a 'code' word, met by the world's own term for the bytes: nothing is compared byte by byte -/
theorem code_word {y : MethodName} {bytes : ByteArray} {mx : Nat} {rt : Option FieldType} {a : Array Value} {s : State} {m : MethodId} {meth : Method} {c : Code} (h1 : s.methodNamed? y = some m) (h2 : s.vm.method? m = some meth) (h3 : meth.code = some c) (h4 : c.code = bytes)
    (h5 : (c.maxLocals == mx && c.exceptionTable.isEmpty && decide (c.maxStack ≤ mostOperands) && decide (meth.sig.returnType = rt) && !meth.locks && decide (parseMethodDescriptor y.desc = some meth.sig)) = true) : (Jvm.Cond.code y bytes mx rt).before a s = true := by
  simp only [Bool.and_eq_true, beq_iff_eq, Bool.not_eq_true', decide_eq_true_eq] at h5
  obtain ⟨⟨⟨⟨⟨g1, g2⟩, g3⟩, g4⟩, g5⟩, g6⟩ := h5
  simp [Cond.before, Cond.holds, Cond.value, h1, h2, h3, h4, g1, g2, g3, g4, g5, g6]
def isCode : Jvm.Cond → Bool
  | .code _ _ _ _ => true
  | _ => false
theorem all_split {L : List Jvm.Cond} {P : Jvm.Cond → Bool} (h1 : L.all (fun c => isCode c || P c) = true) (h2 : ∀ c ∈ L.filter isCode, P c = true) : L.all P = true := by
  refine List.all_eq_true.mpr fun c hc => ?_
  have h := List.all_eq_true.mp h1 c hc
  rcases Bool.eq_false_or_eq_true (isCode c) with hi | hi
  · exact h2 c (List.mem_filter.mpr ⟨hc, hi⟩)
  · simpa [hi] using h
set_option maxRecDepth 65536 in
theorem w_c0 : (Jvm.Cond.code x code maxLocals ret).before args0 about1 = true := code_word (m := ⟨1, 3⟩) (meth := k1m3) (c := k1c3) (by decide +kernel) rfl rfl rfl (by decide +kernel)
set_option maxRecDepth 65536 in
theorem w_c1 : (Jvm.Cond.code ({ cls := "com/example/muset/muset/sparql/BuiltInTakesPinLaw", name := "pick", desc := "(I)Lcom/example/muset/muset/sparql/BuiltInCall$BuiltIn;" } : Jvm.MethodName) method_2_code (1 : Nat) (Option.some (Jvm.ClassFile.FieldType.object "com/example/muset/muset/sparql/BuiltInCall$BuiltIn"))).before args0 about1 = true := code_word (m := ⟨1, 1⟩) (meth := k1m1) (c := k1c1) (by decide +kernel) rfl rfl rfl (by decide +kernel)
set_option maxRecDepth 65536 in
theorem w_c2 : (Jvm.Cond.code ({ cls := "com/example/muset/muset/sparql/BuiltInCall$BuiltIn", name := "takes", desc := "(I)Z" } : Jvm.MethodName) prog_85_method_5_code (2 : Nat) (Option.some Jvm.ClassFile.FieldType.boolean)).before args0 about1 = true := code_word (m := ⟨6, 0⟩) (meth := k6m0) (c := k6c0) (by decide +kernel) rfl rfl rfl (by decide +kernel)
set_option maxRecDepth 65536 in
theorem w_c3 : (Jvm.Cond.code ({ cls := "com/example/muset/muset/sparql/BuiltInTakesPinLaw", name := "expected", desc := "(II)Z" } : Jvm.MethodName) method_3_code (2 : Nat) (Option.some Jvm.ClassFile.FieldType.boolean)).before args0 about1 = true := code_word (m := ⟨1, 2⟩) (meth := k1m2) (c := k1c2) (by decide +kernel) rfl rfl rfl (by decide +kernel)
def codes1 : List Jvm.Cond := [Jvm.Cond.code x code maxLocals ret, Jvm.Cond.code ({ cls := "com/example/muset/muset/sparql/BuiltInTakesPinLaw", name := "pick", desc := "(I)Lcom/example/muset/muset/sparql/BuiltInCall$BuiltIn;" } : Jvm.MethodName) method_2_code (1 : Nat) (Option.some (Jvm.ClassFile.FieldType.object "com/example/muset/muset/sparql/BuiltInCall$BuiltIn")), Jvm.Cond.code ({ cls := "com/example/muset/muset/sparql/BuiltInCall$BuiltIn", name := "takes", desc := "(I)Z" } : Jvm.MethodName) prog_85_method_5_code (2 : Nat) (Option.some Jvm.ClassFile.FieldType.boolean), Jvm.Cond.code ({ cls := "com/example/muset/muset/sparql/BuiltInTakesPinLaw", name := "expected", desc := "(II)Z" } : Jvm.MethodName) method_3_code (2 : Nat) (Option.some Jvm.ClassFile.FieldType.boolean)]
set_option maxRecDepth 65536 in
theorem codes_eq : words1.filter isCode = codes1 := rfl
theorem w_codes : ∀ c ∈ words1.filter isCode, c.before args0 about1 = true := by
  rw [codes_eq]
  intro c hc
  simp only [codes1, List.mem_cons, List.not_mem_nil, or_false] at hc
  rcases hc with rfl | rfl | rfl | rfl
  · exact w_c0
  · exact w_c1
  · exact w_c2
  · exact w_c3
set_option maxRecDepth 65536 in
theorem w_t1 : (words1.take 24).all (fun c => isCode c || c.before args0 about1) = true := by decide +kernel
set_option maxRecDepth 65536 in
theorem w_t2 : (words1.drop 24).all (fun c => isCode c || c.before args0 about1) = true := by decide +kernel
theorem w_tables : (allAtoms (Jvm.Cond.code x code maxLocals ret :: tables_1)).before args0 about1 = true := by
  rw [allAtoms_all]
  show words1.all (fun c => c.before args0 about1) = true
  refine all_split ?_ w_codes
  rw [← List.take_append_drop 24 words1, List.all_append, w_t1, w_t2]
  rfl
set_option maxRecDepth 65536 in
theorem w_case : (Jvm.Cond.and given_1 narrow_1).before args0 about1 = true := by decide +kernel
theorem w_applies : (headSpec (Jvm.Cond.code x code maxLocals ret :: tables_1) room_1).applies x e0.platform about1 = true :=
  (Spec.applies_iff w_frames).mpr ⟨w_running, w_runnable, w_alone, w_named, w_hears, w_ripe, w_room, w_tables⟩
theorem atStart : AtStart classFile x code maxLocals ret World_1 tables_1 room_1 Calls_1 rest_1 Pre_1 launch0 p0 e0 about1 theMethod args0 below0 :=
  ⟨lists_1, trivial, launch0.admits_env _ _ _, launch0.least_env, fairChoices_fair.cas, fairChoices_fair.clock, w_frames, w_args, w_heap, w_applies, trivial, trivial, w_case⟩
end start1
theorem witness_1 : WitnessClaimed_1 := ⟨start1.p0, start1.e0, start1.about1, start1.theMethod, start1.args0, start1.below0, start1.atStart⟩
end Jvm.Pilot.@@N@@
