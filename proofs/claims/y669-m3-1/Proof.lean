import JvmDerived
import JvmDerived.Pilot.@@N@@Statement
import JvmDerived.Pilot.@@N@@Code
set_option linter.unusedVariables false
set_option linter.unusedSimpArgs false
namespace Jvm.Pilot.@@N@@
open Jvm Jvm.ClassFile Sem Op Lib Jvm.Free Jvm.Stand Jvm.LawKit Jvm.RoadKit Bundle Jvm.Pilot.@@N@@.Jvm.D
section OwnKit
variable {p : Program} {l : Launch} {e : Env} {R : Room} {s : State} {m : MethodId} {args : Array Value} {below : List Frame} {meth : Method} {c : Code} {T : State} {locs : List Loc} {cells slots : Nat}
/-- from the state A the body runs to its end and leaves what Q says -/
def own_Go (p : Program) (e : Env) (below : List Frame) (s : State) (Q : Option Value → Heap → List Loc → Prop) (kc ks : Nat) (A : State) : Prop :=
  ∃ s₂ o, Steps p.tables e below A s₂ ∧ s₂.status = .running ∧ Ended s₂ below o ∧ ∃ v L, o = .returned v ∧ Q v s₂.heap L ∧ FrameEnd s o s₂ L kc ks
theorem own_go {Q : Option Value → Heap → List Loc → Prop} {kc ks : Nat} {A B : State} (h : ∀ t, Steps p.tables e below B t → Steps p.tables e below A t) (k : own_Go p e below s Q kc ks B) : own_Go p e below s Q kc ks A := by
  obtain ⟨s₂, o, h1, h2⟩ := k
  exact ⟨s₂, o, h _ h1, h2⟩
/-- from the state A the body runs to the frame g', the heap as it was -/
def own_Arm (p : Program) (l : Launch) (e : Env) (R : Room) (s : State) (m : MethodId) (args : Array Value) (below : List Frame) (meth : Method) (c : Code) (cells slots n0 : Nat) (h : Heap) (g' : JFrame) (A : State) : Prop :=
  ∃ (T' : State) (locs' : List Loc), Stand p l e R s m args below meth c T' locs' cells slots ∧ Fr n0 locs' ∧ T'.heap = h ∧ ∀ t, Steps p.tables e below (T'.setTop g') t → Steps p.tables e below A t
theorem own_arm {n0 : Nat} {h : Heap} {g' : JFrame} {A B : State} (k1 : ∀ t, Steps p.tables e below B t → Steps p.tables e below A t) (k : own_Arm p l e R s m args below meth c cells slots n0 h g' B) : own_Arm p l e R s m args below meth c cells slots n0 h g' A := by
  obtain ⟨T', locs', h1, h2, h3, h4⟩ := k
  exact ⟨T', locs', h1, h2, h3, fun t kt => k1 t (h4 t kt)⟩
theorem own_armEnd {n0 : Nat} {h : Heap} {g g' : JFrame} (X : Stand p l e R s m args below meth c T locs cells slots) (N : Fr n0 locs) (eT : T.heap = h) (q : g' = g) : own_Arm p l e R s m args below meth c cells slots n0 h g' (T.setTop g) :=
  ⟨T, locs, X, N, eT, fun t kt => q ▸ kt⟩
theorem own_mrg {n0 : Nat} {h : Heap} {g g' : JFrame} (X : Stand p l e R s m args below meth c T locs cells slots) (k : own_Arm p l e R s m args below meth c cells slots n0 h g' (T.setTop g)) :
    ∃ (T' : State) (locs' : List Loc), Stand p l e R s m args below meth c T' locs' cells slots ∧ Fr n0 locs' ∧ T'.heap = h ∧ ∀ t, Steps p.tables e below (T'.setTop g') t → Steps p.tables e below (T.setTop g) t := k
theorem own_leave {Q : Option Value → Heap → List Loc → Prop} {kc ks : Nat} {A : State} {v : Option Value} (X : Stand p l e R s m args below meth c T locs cells slots) (hv : meth.sig.returnType = none → v = none) (hlk : meth.locks = false)
    (hc : cells ≤ kc) (hs : slots ≤ ks) (hQ : Q v T.heap locs) (k : ∀ fs, (∀ (f : JFrame) (acts : List Action), f.method = m → f.locked = none → f.entered = [] → (doReturn e (T.setTop f) acts v).1 = T.setFrames fs) → Steps p.tables e below A (T.setFrames fs)) : own_Go p e below s Q kc ks A := by
  obtain ⟨fs, hr, hrun, hended, hW, hsame⟩ := X.leave (v := v) hv hlk
  exact ⟨_, _, k fs hr, hrun, hended, _, _, rfl, hQ, ⟨_, rfl⟩, hW, hsame.mono hc hs⟩
theorem own_retI {Q : Option Value → Heap → List Loc → Prop} {kc ks pc : Nat} {Ls : Array Slot} {z : Int32} {rest : List Value} (X : Stand p l e R s m args below meth c T locs cells slots) (hx : p.tables.exec = Jvm.exec) (hret : meth.sig.returnType = some .int) (hlk : meth.locks = false)
    (hd : decode c.code pc = .ok (.ireturn, 1)) (hc : cells ≤ kc) (hs : slots ≤ ks) (hQ : Q (some (.int z)) T.heap locs) : own_Go p e below s Q kc ks (T.setTop (mkF m pc Ls (.int z :: rest))) := by
  refine own_leave X (fun h => by rw [hret] at h; cases h) hlk hc hs hQ fun fs hl => ?_
  have hm' : T.vm.method? m = some meth := X.method'
  have hn : narrow .int (.int z) = .int z := rfl
  show Steps p.tables e below (T.setTop { method := m, pc := pc, locals := Ls, stack := _ :: rest, locked := none }) _
  jvm_step X.here [X.here.top, hx, hd, hm', hret, hn]
  first | (intro acts; rw [hl _ acts rfl rfl rfl]) | rw [hl _ _ rfl rfl rfl]
  exact Steps.refl _
theorem own_retN {Q : Option Value → Heap → List Loc → Prop} {kc ks pc : Nat} {Ls : Array Slot} {z : Int32} {rest : List Value} {t : FieldType} (X : Stand p l e R s m args below meth c T locs cells slots) (hx : p.tables.exec = Jvm.exec) (hret : meth.sig.returnType = some t) (ht : t = .boolean ∨ t = .byte ∨ t = .char ∨ t = .short) (hlk : meth.locks = false)
    (hd : decode c.code pc = .ok (.ireturn, 1)) (hc : cells ≤ kc) (hs : slots ≤ ks) (hQ : Q (some (.int (nar t z))) T.heap locs) : own_Go p e below s Q kc ks (T.setTop (mkF m pc Ls (.int z :: rest))) :=
  own_leave X (fun h => by rw [hret] at h; cases h) hlk hc hs hQ fun fs hl => retN X hx (t := t) hret ht hd hl
theorem own_nar01 {z : Int32} (h : z = 0 ∨ z = 1) : nar .boolean z = z := by rcases h with rfl | rfl <;> rfl
theorem own_retZ {Q : Option Value → Heap → List Loc → Prop} {kc ks pc : Nat} {Ls : Array Slot} {z : Int32} {rest : List Value} (X : Stand p l e R s m args below meth c T locs cells slots) (hx : p.tables.exec = Jvm.exec) (hret : meth.sig.returnType = some .boolean) (hlk : meth.locks = false)
    (hd : decode c.code pc = .ok (.ireturn, 1)) (hc : cells ≤ kc) (hs : slots ≤ ks) (hz : z = 0 ∨ z = 1) (hQ : Q (some (.int z)) T.heap locs) : own_Go p e below s Q kc ks (T.setTop (mkF m pc Ls (.int z :: rest))) :=
  own_retN X hx hret (Or.inl rfl) hlk hd hc hs (by rw [own_nar01 hz]; exact hQ)
theorem own_retJ {Q : Option Value → Heap → List Loc → Prop} {kc ks pc : Nat} {Ls : Array Slot} {z : Int64} (X : Stand p l e R s m args below meth c T locs cells slots) (hx : p.tables.exec = Jvm.exec) (hret : meth.sig.returnType = some .long) (hlk : meth.locks = false)
    (hd : decode c.code pc = .ok (.lreturn, 1)) (hc : cells ≤ kc) (hs : slots ≤ ks) (hQ : Q (some (.long z)) T.heap locs) : own_Go p e below s Q kc ks (T.setTop (mkF m pc Ls [.long z])) :=
  own_leave X (fun h => by rw [hret] at h; cases h) hlk hc hs hQ fun fs hl => X.lreturnOut hx hret hd hl
theorem own_retA {Q : Option Value → Heap → List Loc → Prop} {kc ks pc : Nat} {Ls : Array Slot} {w : Value} {t : FieldType} {rest : List Value} (X : Stand p l e R s m args below meth c T locs cells slots) (hx : p.tables.exec = Jvm.exec) (hret : meth.sig.returnType = some t) (ht : t.isReference = true) (hw : w.isRef = true) (hlk : meth.locks = false)
    (hd : decode c.code pc = .ok (.areturn, 1)) (hc : cells ≤ kc) (hs : slots ≤ ks) (hQ : Q (some w) T.heap locs) : own_Go p e below s Q kc ks (T.setTop (mkF m pc Ls (w :: rest))) := by
  refine own_leave X (fun h => by rw [hret] at h; cases h) hlk hc hs hQ fun fs hl => ?_
  have hm' : T.vm.method? m = some meth := X.method'
  show Steps p.tables e below (T.setTop { method := m, pc := pc, locals := Ls, stack := _ :: rest, locked := none }) _
  rcases ref_cases hw with rfl | ⟨a, rfl⟩
  all_goals
    jvm_step X.here [X.here.top, hx, hd, hm', hret, Value.isRef, ht]
    first | (intro acts; rw [hl _ acts rfl rfl rfl]) | rw [hl _ _ rfl rfl rfl]
    exact Steps.refl _
theorem own_retV {Q : Option Value → Heap → List Loc → Prop} {kc ks pc : Nat} {Ls : Array Slot} (X : Stand p l e R s m args below meth c T locs cells slots) (hx : p.tables.exec = Jvm.exec) (hret : meth.sig.returnType = none) (hlk : meth.locks = false)
    (hd : decode c.code pc = .ok (.return_, 1)) (hc : cells ≤ kc) (hs : slots ≤ ks) (hQ : Q none T.heap locs) : own_Go p e below s Q kc ks (T.setTop (mkF m pc Ls [])) :=
  own_leave X (fun _ => rfl) hlk hc hs hQ fun fs hl => X.returnOut hx hret hd hl
theorem own_getFR {Z : State} {a0 : Array Value} {h : Heap} (X : Stand p l e R s m args below meth c T locs cells slots) (hx : p.tables.exec = Jvm.exec) (hZ : Z.Warmed39 s.vm) {own O n d : String} {index : Nat} (hown : s.vm.findClass own = some m.cls) (w : (Jvm.Cond.fieldRef own index O n d).before a0 Z = true)
    (eT : T.heap = h) {a : Addr} {v : Value} (F : Fld Z h a O n d v) {g : JFrame} (hg : g.method = m) {rest : List Value} (hs : g.stack = .ref a :: rest) (hd : decode c.code g.pc = .ok (.getfield index, 3)) (target : State) (k : Steps p.tables e below (T.setTop { g with pc := g.pc + 3, stack := v :: rest }) target) : Steps p.tables e below (T.setTop g) target := by
  obtain ⟨cell, cf, kc, i, f, h1, h2, h3, h4, -, -, h7⟩ := F
  have hW : Z.Warmed39 T.vm := wtrans hZ X.warmed
  have w2 := Cond.fieldRef_warmed39 hW w
  obtain ⟨k', hi, -⟩ := State.fieldFound?_setVm (s := Z) hW.alike h2
  have hc : (Z.setVm T.vm).vm.findClass own = some m.cls := by show T.vm.findClass own = _; rw [X.warmed.alike.findClass]; exact hown
  obtain ⟨c1, k1, i1, f1, e1, hr⟩ := Cond.fieldRef_spec hc w2
  cases hi.symm.trans e1
  exact (X.getfieldR hx hg (cF := cf) (field := f) hr h3 hs (by rw [eT]; exact h1) h4 h7 hd (Steps.refl _)).trans k
theorem own_ite01 {c : Prop} [Decidable c] {a b : Int32} (ha : a = 0 ∨ a = 1) (hb : b = 0 ∨ b = 1) : (if c then a else b) = 0 ∨ (if c then a else b) = 1 := by split <;> assumption
end OwnKit
theorem own_remI (a b : Int32) : a - a / b * b = a % b := by
  apply Int32.toInt_inj.mp
  rw [Int32.toInt_sub, Int32.toInt_mul, Int32.toInt_div, Int32.toInt_mod]
  rw [Int.bmod_mul_bmod, Int.sub_bmod_bmod]
  have e : a.toInt - a.toInt.tdiv b.toInt * b.toInt = a.toInt.tmod b.toInt := by
    have := Int.mul_tdiv_add_tmod a.toInt b.toInt
    rw [Int.mul_comm] at this
    omega
  rw [e, ← Int32.toInt_mod]
  exact Int.bmod_eq_of_le (by have := Int32.le_toInt (a % b); omega) (by have := Int32.toInt_lt (a % b); omega)
theorem own_remJ (a b : Int64) : a - a / b * b = a % b := by
  apply Int64.toInt_inj.mp
  rw [Int64.toInt_sub, Int64.toInt_mul, Int64.toInt_div, Int64.toInt_mod]
  rw [Int.bmod_mul_bmod, Int.sub_bmod_bmod]
  have e : a.toInt - a.toInt.tdiv b.toInt * b.toInt = a.toInt.tmod b.toInt := by
    have := Int.mul_tdiv_add_tmod a.toInt b.toInt
    rw [Int.mul_comm] at this
    omega
  rw [e, ← Int64.toInt_mod]
  exact Int.bmod_eq_of_le (by have := Int64.le_toInt (a % b); omega) (by have := Int64.toInt_lt (a % b); omega)
theorem own_lc_eq {a b : Int64} (h : a = b) : lcmpW a b = 0 := by subst h; simp [lcmpW]
theorem own_lc_neq {a b : Int64} (h : ¬ (a = b)) : ¬ (lcmpW a b = 0) := by unfold lcmpW; split <;> first | decide | (rw [if_neg h]; decide)
theorem own_lc_lt {a b : Int64} (h : a < b) : lcmpW a b < 0 := by
  have h1 : ¬ (a > b) := fun q => Int64.lt_irrefl (Int64.lt_trans h q)
  have h2 : ¬ (a = b) := fun q => by subst q; exact Int64.lt_irrefl h
  rw [lcmpW, if_neg h1, if_neg h2]; decide
theorem own_lc_nlt {a b : Int64} (h : ¬ (a < b)) : ¬ (lcmpW a b < 0) := by
  unfold lcmpW
  split
  · decide
  · rename_i h1
    split
    · decide
    · rename_i h2; exact absurd (Int64.le_antisymm (Int64.not_lt.mp h1) (Int64.not_lt.mp h)) h2
theorem own_lc_gt {a b : Int64} (h : b < a) : (0 : Int32) < lcmpW a b := by rw [lcmpW, if_pos h]; decide
theorem own_lc_ngt {a b : Int64} (h : ¬ (b < a)) : ¬ ((0 : Int32) < lcmpW a b) := by
  rw [lcmpW, if_neg h]; split <;> decide
theorem own_rn {w : Value} {C : String} (h : w.isRef = true) : narrow (.object C) w = w := by rcases ref_cases h with rfl | ⟨a, rfl⟩ <;> rfl
theorem own_rf {w : Value} {C : String} (h : w.isRef = true) : fits (.object C) w = true := by rcases ref_cases h with rfl | ⟨a, rfl⟩ <;> rfl
theorem own_plainE {Z : State} {h : Heap} {a : Addr} {C : String} (E : Exa Z h a C) : ∀ cell : Cell, h[a]? = some cell → cell.vm.isStatics = false := fun cell hc => by
  obtain ⟨c, k, h1, -, -, h4, -⟩ := E
  cases h1.symm.trans hc; exact h4
theorem own_staKeep {Z : State} {h h' : Heap} {C n d : String} {v : Value} {ws : List Addr} (F : Sta Z h C n d v) (K : Keep h h' ws) (q : ∀ x ∈ ws, ∀ cell : Cell, h[x]? = some cell → cell.vm.isStatics = false) : Sta Z h' C n d v := by
  obtain ⟨cf, i, k, f, st, cell, h1, h2, h3, h4, h5, h6, h7⟩ := F
  exact ⟨cf, i, k, f, st, cell, h1, h2, h3, h4, K.2.1 st cell h5 (fun hm => by rw [q st hm cell h5] at h6; cases h6), h6, h7⟩
def own_up {α : Type} (f : Nat → α) (i : Nat) (v : α) : Nat → α := fun k => if k = i then v else f k
def own_AI (Z : State) (h : Heap) (a : Addr) (ty : FieldType) (n : Nat) (f : Nat → Int32) : Prop := ∃ c : Cell, Arr Z h a c ty ∧ c.slots.size = n ∧ n < 2 ^ 31 ∧ ∀ j, j < n → c.slots[j]? = some (.int (f j))
theorem own_AI.lt {Z : State} {h : Heap} {a : Addr} {ty : FieldType} {n : Nat} {f : Nat → Int32} (F : own_AI Z h a ty n f) : a < h.size := by obtain ⟨c, A, -⟩ := F; exact A.lt
theorem own_AI.ext {Z : State} {h h' : Heap} {a : Addr} {ty : FieldType} {n : Nat} {f : Nat → Int32} (F : own_AI Z h a ty n f) (E : Ext h h') : own_AI Z h' a ty n f := by obtain ⟨c, A, r⟩ := F; exact ⟨c, A.ext E, r⟩
theorem own_AI.other {Z : State} {h h' : Heap} {a b : Addr} {ty : FieldType} {n sl : Nat} {w : Value} {f : Nat → Int32} (F : own_AI Z h a ty n f) (W : Wr h h' b sl w) (q : a ≠ b) : own_AI Z h' a ty n f := by obtain ⟨c, A, r⟩ := F; exact ⟨c, A.other W q, r⟩
theorem own_AI.keep {Z : State} {h h' : Heap} {a : Addr} {ty : FieldType} {n : Nat} {ws : List Addr} {f : Nat → Int32} (F : own_AI Z h a ty n f) (K : Keep h h' ws) (q : a ∉ ws) : own_AI Z h' a ty n f := by obtain ⟨c, A, r⟩ := F; exact ⟨c, ⟨K.2.1 a c A.1 q, A.2⟩, r⟩
theorem own_plainAI {Z : State} {h : Heap} {a : Addr} {ty : FieldType} {n : Nat} {f : Nat → Int32} (F : own_AI Z h a ty n f) : ∀ cell : Cell, h[a]? = some cell → cell.vm.isStatics = false := fun cell hc => by
  obtain ⟨c, A, -⟩ := F
  cases A.1.symm.trans hc; exact A.plain
theorem own_AI.wr {Z : State} {h h' : Heap} {a : Addr} {ty : FieldType} {n i : Nat} {x : Int32} {f : Nat → Int32} (F : own_AI Z h a ty n f) (W : Wr h h' a i (.int x)) : own_AI Z h' a ty n (own_up f i x) := by
  obtain ⟨c, A, S, B, H⟩ := F
  refine ⟨_, A.same W, by rw [sz_set]; exact S, B, fun j hj => ?_⟩
  show (c.slots.setIfInBounds i _)[j]? = _
  rw [Array.getElem?_setIfInBounds]
  by_cases q : i = j
  · subst q
    rw [if_pos rfl, if_pos (by rw [S]; exact hj)]; simp [own_up]
  · rw [if_neg q, H j hj, own_up, if_neg (fun e => q e.symm)]
theorem own_AI.new {Z : State} {h : Heap} {a : Addr} {k : ClassId} {ty : FieldType} {z : Int32} {n : Nat} (A : Arr Z h a (newA k ty z) ty) (hd : defaultValue ty = .int 0) (hn : z.toNatClampNeg = n) : own_AI Z h a ty n (fun _ => 0) := by
  refine ⟨_, A, by rw [sz_new]; exact hn, ?_, fun j hj => ?_⟩
  · have := Int32.toInt_lt z; rw [← hn]; unfold Int32.toNatClampNeg; omega
  · have hs : (newA k ty z).slots.size = n := by rw [sz_new]; exact hn
    simp only [newA] at hs ⊢
    rw [Array.getElem?_replicate, if_pos (by rw [hn]; exact hj), hd]
def own_AJ (Z : State) (h : Heap) (a : Addr) (ty : FieldType) (n : Nat) (f : Nat → Int64) : Prop := ∃ c : Cell, Arr Z h a c ty ∧ c.slots.size = n ∧ n < 2 ^ 31 ∧ ∀ j, j < n → c.slots[j]? = some (.long (f j))
theorem own_AJ.lt {Z : State} {h : Heap} {a : Addr} {ty : FieldType} {n : Nat} {f : Nat → Int64} (F : own_AJ Z h a ty n f) : a < h.size := by obtain ⟨c, A, -⟩ := F; exact A.lt
theorem own_AJ.ext {Z : State} {h h' : Heap} {a : Addr} {ty : FieldType} {n : Nat} {f : Nat → Int64} (F : own_AJ Z h a ty n f) (E : Ext h h') : own_AJ Z h' a ty n f := by obtain ⟨c, A, r⟩ := F; exact ⟨c, A.ext E, r⟩
theorem own_AJ.other {Z : State} {h h' : Heap} {a b : Addr} {ty : FieldType} {n sl : Nat} {w : Value} {f : Nat → Int64} (F : own_AJ Z h a ty n f) (W : Wr h h' b sl w) (q : a ≠ b) : own_AJ Z h' a ty n f := by obtain ⟨c, A, r⟩ := F; exact ⟨c, A.other W q, r⟩
theorem own_AJ.keep {Z : State} {h h' : Heap} {a : Addr} {ty : FieldType} {n : Nat} {ws : List Addr} {f : Nat → Int64} (F : own_AJ Z h a ty n f) (K : Keep h h' ws) (q : a ∉ ws) : own_AJ Z h' a ty n f := by obtain ⟨c, A, r⟩ := F; exact ⟨c, ⟨K.2.1 a c A.1 q, A.2⟩, r⟩
theorem own_plainAJ {Z : State} {h : Heap} {a : Addr} {ty : FieldType} {n : Nat} {f : Nat → Int64} (F : own_AJ Z h a ty n f) : ∀ cell : Cell, h[a]? = some cell → cell.vm.isStatics = false := fun cell hc => by
  obtain ⟨c, A, -⟩ := F
  cases A.1.symm.trans hc; exact A.plain
theorem own_AJ.wr {Z : State} {h h' : Heap} {a : Addr} {ty : FieldType} {n i : Nat} {x : Int64} {f : Nat → Int64} (F : own_AJ Z h a ty n f) (W : Wr h h' a i (.long x)) : own_AJ Z h' a ty n (own_up f i x) := by
  obtain ⟨c, A, S, B, H⟩ := F
  refine ⟨_, A.same W, by rw [sz_set]; exact S, B, fun j hj => ?_⟩
  show (c.slots.setIfInBounds i _)[j]? = _
  rw [Array.getElem?_setIfInBounds]
  by_cases q : i = j
  · subst q
    rw [if_pos rfl, if_pos (by rw [S]; exact hj)]; simp [own_up]
  · rw [if_neg q, H j hj, own_up, if_neg (fun e => q e.symm)]
theorem own_AJ.new {Z : State} {h : Heap} {a : Addr} {k : ClassId} {ty : FieldType} {z : Int32} {n : Nat} (A : Arr Z h a (newA k ty z) ty) (hd : defaultValue ty = .long 0) (hn : z.toNatClampNeg = n) : own_AJ Z h a ty n (fun _ => 0) := by
  refine ⟨_, A, by rw [sz_new]; exact hn, ?_, fun j hj => ?_⟩
  · have := Int32.toInt_lt z; rw [← hn]; unfold Int32.toNatClampNeg; omega
  · have hs : (newA k ty z).slots.size = n := by rw [sz_new]; exact hn
    simp only [newA] at hs ⊢
    rw [Array.getElem?_replicate, if_pos (by rw [hn]; exact hj), hd]
section OwnArr
variable {p : Program} {l : Launch} {e : Env} {R : Room} {s : State} {m : MethodId} {args : Array Value} {below : List Frame} {meth : Method} {c : Code} {T : State} {locs : List Loc} {cells slots : Nat} {Z : State} {h : Heap}
theorem own_inb {j : Int32} {n k : Nat} (S : k = n) (hj : ¬ j < 0 ∧ j.toNatClampNeg < n) : ¬ (j < 0 ∨ k ≤ j.toNatClampNeg) := fun q => q.elim hj.1 (fun u => absurd hj.2 (by omega))
theorem own_ldI (X : Stand p l e R s m args below meth c T locs cells slots) (hx : p.tables.exec = Jvm.exec) (hZ : Z.Warmed39 s.vm) (eT : T.heap = h) {a : Addr} {n : Nat} {f : Nat → Int32} (A : own_AI Z h a .int n f) {j : Int32} (hj : ¬ j < 0 ∧ j.toNatClampNeg < n)
    {g : JFrame} (hg : g.method = m) {rest : List Value} (hs : g.stack = .int j :: .ref a :: rest) (hd : decode c.code g.pc = .ok (.iaload, 1)) (target : State) (k : Steps p.tables e below (T.setTop { g with pc := g.pc + 1, stack := .int (f j.toNatClampNeg) :: rest }) target) : Steps p.tables e below (T.setTop g) target := by
  obtain ⟨c', Ar, S, -, H⟩ := A
  exact X.iaload hx (by rw [eT]; exact Ar.1) (State.isArrayOf_alike hZ.alike Ar.2.1) Ar.2.2 (own_inb S hj) (H _ hj.2) hg hs hd target k
theorem own_ldB (X : Stand p l e R s m args below meth c T locs cells slots) (hx : p.tables.exec = Jvm.exec) (hZ : Z.Warmed39 s.vm) (eT : T.heap = h) {a : Addr} {n : Nat} {f : Nat → Int32} (A : own_AI Z h a .byte n f) {j : Int32} (hj : ¬ j < 0 ∧ j.toNatClampNeg < n)
    {g : JFrame} (hg : g.method = m) {rest : List Value} (hs : g.stack = .int j :: .ref a :: rest) (hd : decode c.code g.pc = .ok (.baload, 1)) (target : State) (k : Steps p.tables e below (T.setTop { g with pc := g.pc + 1, stack := .int (f j.toNatClampNeg) :: rest }) target) : Steps p.tables e below (T.setTop g) target := by
  obtain ⟨c', Ar, S, -, H⟩ := A
  exact X.baloadBytes hx (by rw [eT]; exact Ar.1) (State.isArrayOf_alike hZ.alike Ar.2.1) Ar.2.2 (own_inb S hj) (H _ hj.2) hg hs hd target k
theorem own_ldJ (X : Stand p l e R s m args below meth c T locs cells slots) (hx : p.tables.exec = Jvm.exec) (hZ : Z.Warmed39 s.vm) (eT : T.heap = h) {a : Addr} {n : Nat} {f : Nat → Int64} (A : own_AJ Z h a .long n f) {j : Int32} (hj : ¬ j < 0 ∧ j.toNatClampNeg < n)
    {g : JFrame} (hg : g.method = m) {rest : List Value} (hs : g.stack = .int j :: .ref a :: rest) (hd : decode c.code g.pc = .ok (.laload, 1)) (target : State) (k : Steps p.tables e below (T.setTop { g with pc := g.pc + 1, stack := .long (f j.toNatClampNeg) :: rest }) target) : Steps p.tables e below (T.setTop g) target := by
  obtain ⟨c', Ar, S, -, H⟩ := A
  exact X.laload hx (by rw [eT]; exact Ar.1) (State.isArrayOf_alike hZ.alike Ar.2.1) Ar.2.2 (own_inb S hj) (H _ hj.2) hg hs hd target k
theorem own_lenI (X : Stand p l e R s m args below meth c T locs cells slots) (hx : p.tables.exec = Jvm.exec) (hZ : Z.Warmed39 s.vm) (eT : T.heap = h) {a : Addr} {ty : FieldType} {n : Nat} {f : Nat → Int32} (A : own_AI Z h a ty n f)
    {g : JFrame} (hg : g.method = m) {rest : List Value} (hs : g.stack = .ref a :: rest) (hd : decode c.code g.pc = .ok (.arraylength, 1)) (target : State) (k : Steps p.tables e below (T.setTop { g with pc := g.pc + 1, stack := .int (n.toInt32) :: rest }) target) : Steps p.tables e below (T.setTop g) target := by
  obtain ⟨c', Ar, S, -, H⟩ := A
  exact X.arraylength hx (by rw [eT]; exact Ar.1) (State.isArrayOf_alike hZ.alike Ar.2.1) hg hs hd target (by rw [S]; exact k)
theorem own_lenJ (X : Stand p l e R s m args below meth c T locs cells slots) (hx : p.tables.exec = Jvm.exec) (hZ : Z.Warmed39 s.vm) (eT : T.heap = h) {a : Addr} {ty : FieldType} {n : Nat} {f : Nat → Int64} (A : own_AJ Z h a ty n f)
    {g : JFrame} (hg : g.method = m) {rest : List Value} (hs : g.stack = .ref a :: rest) (hd : decode c.code g.pc = .ok (.arraylength, 1)) (target : State) (k : Steps p.tables e below (T.setTop { g with pc := g.pc + 1, stack := .int (n.toInt32) :: rest }) target) : Steps p.tables e below (T.setTop g) target := by
  obtain ⟨c', Ar, S, -, H⟩ := A
  exact X.arraylength hx (by rw [eT]; exact Ar.1) (State.isArrayOf_alike hZ.alike Ar.2.1) hg hs hd target (by rw [S]; exact k)
theorem own_stI (X : Stand p l e R s m args below meth c T locs cells slots) (hx : p.tables.exec = Jvm.exec) (hZ : Z.Warmed39 s.vm) (eT : T.heap = h) {a : Addr} {n : Nat} {f : Nat → Int32} (A : own_AI Z h a .int n f) {j x : Int32} (hj : ¬ j < 0 ∧ j.toNatClampNeg < n)
    {g : JFrame} (hg : g.method = m) {rest : List Value} (hs : g.stack = .int x :: .int j :: .ref a :: rest) (hd : decode c.code g.pc = .ok (.iastore, 1)) :
    ∃ T' h', Stand p l e R s m args below meth c T' (locs ++ [⟨a, j.toNatClampNeg⟩]) cells slots ∧ T'.heap = h' ∧ Wr h h' a j.toNatClampNeg (.int x) ∧ own_AI Z h' a .int n (own_up f j.toNatClampNeg x) ∧ ∀ target, Steps p.tables e below (T'.setTop { g with pc := g.pc + 1, stack := rest }) target → Steps p.tables e below (T.setTop g) target := by
  have A2 := A
  obtain ⟨c', Ar, S, -, H⟩ := A
  obtain ⟨T', h', X', e', W, st⟩ := stI X hx hZ eT Ar (j := j) (x := x) (own_inb S hj) hg hs hd
  exact ⟨T', h', X', e', W, A2.wr W, st⟩
theorem own_stB (X : Stand p l e R s m args below meth c T locs cells slots) (hx : p.tables.exec = Jvm.exec) (hZ : Z.Warmed39 s.vm) (eT : T.heap = h) {a : Addr} {n : Nat} {f : Nat → Int32} (A : own_AI Z h a .byte n f) {j x : Int32} (hj : ¬ j < 0 ∧ j.toNatClampNeg < n)
    {g : JFrame} (hg : g.method = m) {rest : List Value} (hs : g.stack = .int x :: .int j :: .ref a :: rest) (hd : decode c.code g.pc = .ok (.bastore, 1)) :
    ∃ T' h', Stand p l e R s m args below meth c T' (locs ++ [⟨a, j.toNatClampNeg⟩]) cells slots ∧ T'.heap = h' ∧ Wr h h' a j.toNatClampNeg (.int (nar .byte x)) ∧ own_AI Z h' a .byte n (own_up f j.toNatClampNeg (nar .byte x)) ∧ ∀ target, Steps p.tables e below (T'.setTop { g with pc := g.pc + 1, stack := rest }) target → Steps p.tables e below (T.setTop g) target := by
  have A2 := A
  obtain ⟨c', Ar, S, -, H⟩ := A
  obtain ⟨T', h', X', e', W, st⟩ := stB X hx hZ eT Ar (j := j) (x := x) (own_inb S hj) hg hs hd
  exact ⟨T', h', X', e', W, A2.wr W, st⟩
theorem own_stC (X : Stand p l e R s m args below meth c T locs cells slots) (hx : p.tables.exec = Jvm.exec) (hZ : Z.Warmed39 s.vm) (eT : T.heap = h) {a : Addr} {n : Nat} {f : Nat → Int32} (A : own_AI Z h a .char n f) {j x : Int32} (hj : ¬ j < 0 ∧ j.toNatClampNeg < n)
    {g : JFrame} (hg : g.method = m) {rest : List Value} (hs : g.stack = .int x :: .int j :: .ref a :: rest) (hd : decode c.code g.pc = .ok (.castore, 1)) :
    ∃ T' h', Stand p l e R s m args below meth c T' (locs ++ [⟨a, j.toNatClampNeg⟩]) cells slots ∧ T'.heap = h' ∧ Wr h h' a j.toNatClampNeg (.int (nar .char x)) ∧ own_AI Z h' a .char n (own_up f j.toNatClampNeg (nar .char x)) ∧ ∀ target, Steps p.tables e below (T'.setTop { g with pc := g.pc + 1, stack := rest }) target → Steps p.tables e below (T.setTop g) target := by
  have A2 := A
  obtain ⟨c', Ar, S, -, H⟩ := A
  obtain ⟨T', h', X', e', W, st⟩ := stC X hx hZ eT Ar (j := j) (x := x) (own_inb S hj) hg hs hd
  exact ⟨T', h', X', e', W, A2.wr W, st⟩
theorem own_stJ (X : Stand p l e R s m args below meth c T locs cells slots) (hx : p.tables.exec = Jvm.exec) (hZ : Z.Warmed39 s.vm) (eT : T.heap = h) {a : Addr} {n : Nat} {f : Nat → Int64} (A : own_AJ Z h a .long n f) {j : Int32} {x : Int64} (hj : ¬ j < 0 ∧ j.toNatClampNeg < n)
    {g : JFrame} (hg : g.method = m) {rest : List Value} (hs : g.stack = .long x :: .int j :: .ref a :: rest) (hd : decode c.code g.pc = .ok (.lastore, 1)) :
    ∃ T' h', Stand p l e R s m args below meth c T' (locs ++ [⟨a, j.toNatClampNeg⟩]) cells slots ∧ T'.heap = h' ∧ Wr h h' a j.toNatClampNeg (.long x) ∧ own_AJ Z h' a .long n (own_up f j.toNatClampNeg x) ∧ ∀ target, Steps p.tables e below (T'.setTop { g with pc := g.pc + 1, stack := rest }) target → Steps p.tables e below (T.setTop g) target := by
  have A2 := A
  obtain ⟨c', Ar, S, -, H⟩ := A
  obtain ⟨T', h', X', e', W, st⟩ := stJ X hx hZ eT Ar (j := j) (x := x) (own_inb S hj) hg hs hd
  exact ⟨T', h', X', e', W, A2.wr W, st⟩
end OwnArr
theorem own_fldI {s : State} {args : Array Value} {t : Term} {u : Addr} {C n d : String} {k : Int32} (et : t.eval args s none [] s = some (.ref u)) (h : (Jvm.Cond.eq (.field t C n d) (.int k)).value args s none s [] = some true) : Fld s s.heap u C n d (.int k) := by
  obtain ⟨x, y, ha, hb, -, -⟩ := cmp_v (Or.inl h)
  have hy : y = .int k := (Option.some.inj ((Term.int_eval k).symm.trans hb)).symm
  subst hy
  refine Fld.start ?_
  rw [← fld_at (o := none) (idx := []) et, ha]
  simp only [Cond.value, ha, hb] at h
  cases x <;> simp_all
theorem own_fldN {s : State} {args : Array Value} {t : Term} {u : Addr} {C n d : String} (et : t.eval args s none [] s = some (.ref u)) (h : (Jvm.Cond.eq (.field t C n d) .null).value args s none s [] = some true) : Fld s s.heap u C n d .null :=
  Fld.start (by rw [← fld_at (o := none) (idx := []) et]; exact null_v h)
theorem own_fldR {s : State} {args : Array Value} {t t' : Term} {u u' : Addr} {C n d : String} (et : t.eval args s none [] s = some (.ref u)) (et' : t'.eval args s none [] s = some (.ref u')) (h : (Jvm.Cond.eq (.field t C n d) t').value args s none s [] = some true) : Fld s s.heap u C n d (.ref u') := by
  obtain ⟨x, y, ha, hb, -, -⟩ := cmp_v (Or.inl h)
  have hy : y = .ref u' := Option.some.inj (hb.symm.trans et')
  subst hy
  refine Fld.start ?_
  rw [← fld_at (o := none) (idx := []) et, ha]
  simp only [Cond.value, ha, hb] at h
  cases x <;> simp_all
theorem own_neI {s : State} {args : Array Value} {t : Term} {u k : Int32} (et : t.eval args s none [] s = some (.int u)) (h : (Jvm.Cond.not (Jvm.Cond.eq t (.int k))).value args s none s [] = some true) : ¬ (u = k) := fun q => by
  have q2 := not_v h
  have hb : (Term.int k).eval args s none [] s = some (.int k) := Term.int_eval k
  subst q
  simp only [Cond.value, et, hb] at q2
  simp at q2
section OwnKitW
variable {p : Program} {l : Launch} {e : Env} {R : Room} {s : State} {m : MethodId} {args : Array Value} {below : List Frame} {meth : Method} {c : Code} {T : State} {locs : List Loc} {cells slots : Nat}
def own_GoW (p : Program) (e : Env) (below : List Frame) (s : State) (Q : Option Value → Heap → List Loc → Prop) (kc ks : Nat) (A : State) : Prop :=
  ∃ s₂ o, Steps p.tables e below A s₂ ∧ s₂.status = .running ∧ Ended s₂ below o ∧ ∃ v L, o = .returned v ∧ Q v s₂.heap L ∧ ReturnedEndW s o s₂ L kc ks
theorem own_goW {Q : Option Value → Heap → List Loc → Prop} {kc ks : Nat} {A B : State} (h : ∀ t, Steps p.tables e below B t → Steps p.tables e below A t) (k : own_GoW p e below s Q kc ks B) : own_GoW p e below s Q kc ks A := by
  obtain ⟨s₂, o, h1, h2⟩ := k
  exact ⟨s₂, o, h _ h1, h2⟩
theorem own_retZW {vm₁ : Vm} {n : Nat} {Q : Option Value → Heap → List Loc → Prop} {kc ks pc : Nat} {Ls : Array Slot} {z : Int32} {rest : List Value} (X : Stand p l e R (s.setVm vm₁) m args below meth c T locs cells slots) (hx : p.tables.exec = Jvm.exec) (hret : meth.sig.returnType = some .boolean) (hlk : meth.locks = false)
    (hd : decode c.code pc = .ok (.ireturn, 1)) (hS : s.Since vm₁ n) (hn : n ≤ T.heap.size) (hc : cells ≤ kc) (hs : slots ≤ ks) (hz : z = 0 ∨ z = 1) (hQ : Q (some (.int z)) T.heap locs) : own_GoW p e below s Q kc ks (T.setTop (mkF m pc Ls (.int z :: rest))) := by
  obtain ⟨fs, hr, hrun, hended, h1, h2, h3, hsame⟩ := X.leaveW hS hn (v := some (.int (nar .boolean z))) (fun h => by rw [hret] at h; cases h) hlk
  exact ⟨_, _, retN X hx (t := .boolean) hret (Or.inl rfl) hd hr, hrun, hended, _, _, rfl, by rw [own_nar01 hz]; exact hQ, h1, h2, h3, hsame.mono hc hs⟩
end OwnKitW
theorem own_ofArv {Z : State} {h : Heap} {a : Addr} {k : ClassId} {x : Int32} (F : Arv Z h a k .byte 1 [.int x] (.int 0)) : own_AI Z h a .byte 1 (fun _ => x) := by
  obtain ⟨c, A, -, S, -, H, -⟩ := F
  have S1 : c.slots.size = 1 := S
  refine ⟨c, A, S1, by decide, fun j hj => ?_⟩
  have e : j = 0 := by omega
  subst e
  exact H 0 (by rw [S1]; decide)
theorem own_symNe {Z : State} {h : Heap} {r0 r1 a b : Addr} {f g : Nat → Int32} (F : Fld Z h r0 "java/lang/String" "value" "[B" (.ref a)) (G : Fld Z h r1 "java/lang/String" "value" "[B" (.ref b)) (A : own_AI Z h a .byte 1 f) (B : own_AI Z h b .byte 1 g) (q : ¬ (f 0 = g 0)) : r0 ≠ r1 :=
  Fld.ne F G fun e => q (by
    cases Value.ref.inj e
    obtain ⟨c, A1, -, -, H⟩ := A
    obtain ⟨c', B1, -, -, H'⟩ := B
    cases A1.1.symm.trans B1.1
    exact Value.int.inj (Option.some.inj ((H 0 (by decide)).symm.trans (H' 0 (by decide)))))
theorem own_aiStart {s : State} {args : Array Value} {t : Term} {u : Addr} {k : Int32} (et : t.eval args s none [] s = some (.ref u)) (ha : (Jvm.Cond.arrayOf t .byte).value args s none s [] = some true) (hl : (Jvm.Cond.eq (.length t) (.int 1)).value args s none s [] = some true)
    (he : (Jvm.Cond.eq (.elem t (.int 0)) (.int k)).value args s none s [] = some true) : own_AI s s.heap u .byte 1 (fun _ => k) := by
  obtain ⟨c, A⟩ := Arr.start et ha
  have hA := A.fin (U := s) (Vm.Alike.refl _)
  obtain ⟨x, y, hx, hy, -, -⟩ := cmp_v (Or.inl hl)
  have hb : c.slots.size < 2 ^ 31 := Decidable.byContradiction fun q => by
    simp [Term.eval, et, hA, q] at hx
  have hx2 := len_f et hA hb
  have q := gotT (P := c.slots.size.toInt32 = 1) (u := (Jvm.Cond.eq (.length t) (.int 1)).value args s none s []) (by simp [Cond.value, hx2, Term.int_eval]) hl
  have hsz : c.slots.size = 1 := by
    have q2 : (Int32.ofNat c.slots.size).toInt = _ := congrArg Int32.toInt q
    rw [Int32.toInt_ofNat', show (Int32.size : Nat) = 2 ^ 32 from rfl, show (1 : Int32).toInt = 1 from rfl, Int.bmod_eq_of_le (by omega) (by omega)] at q2
    omega
  refine ⟨c, A, hsz, by decide, fun j hj => ?_⟩
  have e : j = 0 := by omega
  subst e
  obtain ⟨x, y, hx, hy, -, -⟩ := cmp_v (Or.inl he)
  obtain ⟨-, q3⟩ := elem_in hx et (Term.int_eval 0) A.1
  have hy2 : y = .int k := (Option.some.inj ((Term.int_eval k).symm.trans hy)).symm
  subst hy2
  have q4 : x = .int k := by
    simp only [Cond.value, hx, hy] at he
    cases x <;> simp_all
  rw [← q4]; exact q3
theorem own_fldE {s : State} {args : Array Value} {t : Term} {u : Addr} {C n d K : String} (et : t.eval args s none [] s = some (.ref u)) (h : (Jvm.Cond.exactly (.field t C n d) K).value args s none s [] = some true) : ∃ y, (Term.field t C n d).eval args s none [] s = some (.ref y) ∧ Fld s s.heap u C n d (.ref y) ∧ Exa s s.heap y K := by
  obtain ⟨y, ey⟩ := exa_v h
  exact ⟨y, ey, Fld.start (by rw [← fld_at (o := none) (idx := []) et]; exact ey), Exa.start ey h⟩
theorem own_fldA {s : State} {args : Array Value} {t : Term} {u : Addr} {C n d : String} {ty : FieldType} (et : t.eval args s none [] s = some (.ref u)) (h : (Jvm.Cond.arrayOf (.field t C n d) ty).value args s none s [] = some true) : ∃ y, (Term.field t C n d).eval args s none [] s = some (.ref y) ∧ Fld s s.heap u C n d (.ref y) := by
  obtain ⟨y, ey⟩ := arr_v h
  exact ⟨y, ey, Fld.start (by rw [← fld_at (o := none) (idx := []) et]; exact ey)⟩
theorem d1_0 : decode prog_80_method_4_code 0 = .ok (.aload_n 0, 1) := by decide +kernel
theorem d1_1 : decode prog_80_method_4_code 1 = .ok (.getfield 35, 3) := by decide +kernel
theorem d1_4 : decode prog_80_method_4_code 4 = .ok (.areturn, 1) := by decide +kernel
theorem ef_1 (m : MethodId) (r0 : Addr) : entryFrame m #[(.ref r0)] 1 = mkF m 0 #[.val (.ref r0)] [] := by (first | (simp [entryFrame, mkF, argsToLocals, Value.category]; done) | rfl)
theorem pn0 : plainName "com/example/muset/muset/sparql/Arithmetic$Operator" = true := by first | (simp [plainName, overriddenIn]; done) | decide +kernel
def Q1 (Z : State) (r0 : Addr) (w1 : Addr) (h0 : Heap) (n0 : Nat) (v : Option Value) (h : Heap) (L : List Loc) : Prop := v = some (.ref w1) ∧ Fr n0 L ∧ h = h0
set_option maxRecDepth 65536 in
set_option maxHeartbeats 40000000 in
theorem rm1 (l : Launch) (Z : State) (a0 : Array Value) (hw : ∀ d ∈ tables_1, d.before a0 Z = true) (ws : List Jvm.Cond) (r0 : Addr) (w1 : Addr) (h0 : Heap) (n0 : Nat) (Z0 : n0 ≤ h0.size) (F_symbol_r0 : Fld Z h0 r0 "com/example/muset/muset/sparql/Arithmetic$Operator" "symbol" "Ljava/lang/String;" (.ref w1)) :
    MetFree l (⟨"com/example/muset/muset/sparql/Arithmetic$Operator", "symbol", "()Ljava/lang/String;"⟩ : MethodName) (head1 (Jvm.Cond.code (⟨"com/example/muset/muset/sparql/Arithmetic$Operator", "symbol", "()Ljava/lang/String;"⟩ : MethodName) prog_80_method_4_code 1 (some (.object "java/lang/String")) :: ws) ({ frames := 0, cells := 0, slots := 0, locals := 0 } : Room)) (fun a U => a = #[(.ref r0)] ∧ Z.Warmed39 U.vm ∧ U.heap = h0) (fun _ _ _ _ _ => True) (fun _ U o U' => ∃ v L, o = .returned v ∧ Q1 Z r0 w1 h0 n0 v U'.heap L ∧ FrameEnd U o U' L ({ frames := 0, cells := 0, slots := 0, locals := 0 } : Room).cells ({ frames := 0, cells := 0, slots := 0, locals := 0 } : Room).slots) := by
  refine MetFree.of_bodySF (plainFor_of_name pn0) hisR ?_
  intro p e s m args below meth c s₁ Bd hml0 hP hK
  obtain ⟨rfl, hZ, hh⟩ := hP
  have hx := Bd.exec
  have hby := Bd.bytes
  have hml : c.maxLocals = 1 := hml0
  have hown : s.vm.findClass "com/example/muset/muset/sparql/Arithmetic$Operator" = some m.cls := findClass_of_methodNamed Bd.named
  have hnm := (name_of_methodNamed Bd.named Bd.method).1
  have X0 : Stand p l e ({ frames := 0, cells := 0, slots := 0, locals := 0 } : Room) s m #[(.ref r0)] below meth c s₁ [] 0 0 := Stand.of_body Bd
  have e0 : s₁.heap = h0 := by rw [← hh, Bd.state]; rfl
  have N0 := Fr.nil n0
  have K0 : Keep h0 h0 [] := Keep.refl h0 _
  show own_Go p e below s (Q1 Z r0 w1 h0 n0) ({ frames := 0, cells := 0, slots := 0, locals := 0 } : Room).cells ({ frames := 0, cells := 0, slots := 0, locals := 0 } : Room).slots (s₁.setTop (entryFrame m #[(.ref r0)] 1))
  refine own_go (fun t k => castTop (ef_1 m r0) k) ?_
  obtain ⟨T101, X101, e101, st101⟩ := getF X0 hx hZ hown (host := "") (Or.inl (hw _ (List.mem_of_getElem? (i := 8) rfl))) Via.refl e0 F_symbol_r0 (g := (mkF m 1 #[.val (.ref r0)] [(.ref r0)])) rfl rfl (hb hby d1_1)
  have hgo102 : ∀ t, Steps p.tables e below (T101.setTop (mkF m 4 #[.val (.ref r0)] [(.ref w1)])) t → Steps p.tables e below (s₁.setTop (mkF m 0 #[.val (.ref r0)] [])) t := by
    intro t kt
    show Steps p.tables e below (s₁.setTop (mkF m 0 #[.val (.ref r0)] [])) _
    refine XS.aloadN X0.here hx rfl (hb hby d1_0) rfl rfl ?_
    show Steps p.tables e below (s₁.setTop (mkF m 1 #[.val (.ref r0)] [(.ref r0)])) _
    refine st101 _ ?_
    exact kt
  refine own_go hgo102 ?_
  exact own_retA X101 hx Bd.returns rfl rfl Bd.notSynchronized (hb hby d1_4) (by decide) (by decide) (by rw [e101]; exact ⟨(by rfl), N0, rfl⟩)
theorem d3_0 : decode jdk_43_method_13_code 0 = .ok (.aload_n 0, 1) := by decide +kernel
theorem d3_1 : decode jdk_43_method_13_code 1 = .ok (.arraylength, 1) := by decide +kernel
theorem d3_2 : decode jdk_43_method_13_code 2 = .ok (.aload_n 1, 1) := by decide +kernel
theorem d3_3 : decode jdk_43_method_13_code 3 = .ok (.arraylength, 1) := by decide +kernel
theorem d3_4 : decode jdk_43_method_13_code 4 = .ok (.if_icmp .ne 30, 3) := by decide +kernel
theorem d3_7 : decode jdk_43_method_13_code 7 = .ok (.iconst 0, 1) := by decide +kernel
theorem d3_8 : decode jdk_43_method_13_code 8 = .ok (.istore_n 2, 1) := by decide +kernel
theorem d3_9 : decode jdk_43_method_13_code 9 = .ok (.iload_n 2, 1) := by decide +kernel
theorem d3_10 : decode jdk_43_method_13_code 10 = .ok (.aload_n 0, 1) := by decide +kernel
theorem d3_11 : decode jdk_43_method_13_code 11 = .ok (.arraylength, 1) := by decide +kernel
theorem d3_12 : decode jdk_43_method_13_code 12 = .ok (.if_icmp .ge 20, 3) := by decide +kernel
theorem d3_15 : decode jdk_43_method_13_code 15 = .ok (.aload_n 0, 1) := by decide +kernel
theorem d3_16 : decode jdk_43_method_13_code 16 = .ok (.iload_n 2, 1) := by decide +kernel
theorem d3_17 : decode jdk_43_method_13_code 17 = .ok (.baload, 1) := by decide +kernel
theorem d3_18 : decode jdk_43_method_13_code 18 = .ok (.aload_n 1, 1) := by decide +kernel
theorem d3_19 : decode jdk_43_method_13_code 19 = .ok (.iload_n 2, 1) := by decide +kernel
theorem d3_20 : decode jdk_43_method_13_code 20 = .ok (.baload, 1) := by decide +kernel
theorem d3_21 : decode jdk_43_method_13_code 21 = .ok (.if_icmp .eq 5, 3) := by decide +kernel
theorem d3_26 : decode jdk_43_method_13_code 26 = .ok (.iinc 2 1, 3) := by decide +kernel
theorem d3_29 : decode jdk_43_method_13_code 29 = .ok (.goto (-20), 3) := by decide +kernel
theorem d3_32 : decode jdk_43_method_13_code 32 = .ok (.iconst 1, 1) := by decide +kernel
theorem d3_33 : decode jdk_43_method_13_code 33 = .ok (.ireturn, 1) := by decide +kernel
theorem ef_31 (m : MethodId) (r0 : Addr) (r1 : Addr) : entryFrame m #[(.ref r0), (.ref r1)] 3 = mkF m 0 #[.val (.ref r0), .val (.ref r1), .unset] [] := by (first | (simp [entryFrame, mkF, argsToLocals, Value.category]; done) | rfl)
theorem pn1 : plainName "java/lang/StringLatin1" = true := by first | (simp [plainName, overriddenIn]; done) | decide +kernel
def Q31 (Z : State) (r0 : Addr) (r1 : Addr) (f : Nat → Int32) (g : Nat → Int32) (h0 : Heap) (n0 : Nat) (v : Option Value) (h : Heap) (L : List Loc) : Prop := v = some (.int (1 : Int32)) ∧ Fr n0 L ∧ h = h0
set_option maxRecDepth 65536 in
set_option maxHeartbeats 40000000 in
theorem rm31 (l : Launch) (Z : State) (a0 : Array Value) (hw : ∀ d ∈ tables_1, d.before a0 Z = true) (ws : List Jvm.Cond) (r0 : Addr) (r1 : Addr) (f : Nat → Int32) (g : Nat → Int32) (h0 : Heap) (n0 : Nat) (Z0 : n0 ≤ h0.size) (A_r0 : own_AI Z h0 r0 .byte 1 f) (A_r1 : own_AI Z h0 r1 .byte 1 g) (hab : (f 0) = (g 0)) :
    MetFree l (⟨"java/lang/StringLatin1", "equals", "([B[B)Z"⟩ : MethodName) (head1 (Jvm.Cond.code (⟨"java/lang/StringLatin1", "equals", "([B[B)Z"⟩ : MethodName) jdk_43_method_13_code 3 (some .boolean) :: ws) ({ frames := 0, cells := 0, slots := 0, locals := 0 } : Room)) (fun a U => a = #[(.ref r0), (.ref r1)] ∧ Z.Warmed39 U.vm ∧ U.heap = h0) (fun _ _ _ _ _ => True) (fun _ U o U' => ∃ v L, o = .returned v ∧ Q31 Z r0 r1 f g h0 n0 v U'.heap L ∧ FrameEnd U o U' L ({ frames := 0, cells := 0, slots := 0, locals := 0 } : Room).cells ({ frames := 0, cells := 0, slots := 0, locals := 0 } : Room).slots) := by
  refine MetFree.of_bodySF (plainFor_of_name pn1) hisR ?_
  intro p e s m args below meth c s₁ Bd hml0 hP hK
  obtain ⟨rfl, hZ, hh⟩ := hP
  have hx := Bd.exec
  have hby := Bd.bytes
  have hml : c.maxLocals = 3 := hml0
  have hown : s.vm.findClass "java/lang/StringLatin1" = some m.cls := findClass_of_methodNamed Bd.named
  have hnm := (name_of_methodNamed Bd.named Bd.method).1
  have X0 : Stand p l e ({ frames := 0, cells := 0, slots := 0, locals := 0 } : Room) s m #[(.ref r0), (.ref r1)] below meth c s₁ [] 0 0 := Stand.of_body Bd
  have e0 : s₁.heap = h0 := by rw [← hh, Bd.state]; rfl
  have N0 := Fr.nil n0
  have K0 : Keep h0 h0 [] := Keep.refl h0 _
  show own_Go p e below s (Q31 Z r0 r1 f g h0 n0) ({ frames := 0, cells := 0, slots := 0, locals := 0 } : Room).cells ({ frames := 0, cells := 0, slots := 0, locals := 0 } : Room).slots (s₁.setTop (entryFrame m #[(.ref r0), (.ref r1)] 3))
  refine own_go (fun t k => castTop (ef_31 m r0 r1) k) ?_
  have hin17_101 : ¬ (0 : Int32) < 0 ∧ (0 : Int32).toNatClampNeg < 1 := by decide
  have hin20_102 : ¬ (0 : Int32) < 0 ∧ (0 : Int32).toNatClampNeg < 1 := by decide
  have hgo103 : ∀ t, Steps p.tables e below (s₁.setTop (mkF m 33 #[.val (.ref r0), .val (.ref r1), .val (.int (1 : Int32))] [(.int (1 : Int32))])) t → Steps p.tables e below (s₁.setTop (mkF m 0 #[.val (.ref r0), .val (.ref r1), .unset] [])) t := by
    intro t kt
    show Steps p.tables e below (s₁.setTop (mkF m 0 #[.val (.ref r0), .val (.ref r1), .unset] [])) _
    refine XS.aloadN X0.here hx rfl (hb hby d3_0) rfl rfl ?_
    show Steps p.tables e below (s₁.setTop (mkF m 1 #[.val (.ref r0), .val (.ref r1), .unset] [(.ref r0)])) _
    refine own_lenI X0 hx hZ e0 A_r0 (g := (mkF m 1 #[.val (.ref r0), .val (.ref r1), .unset] [(.ref r0)])) rfl rfl (hb hby d3_1) _ ?_
    show Steps p.tables e below (s₁.setTop (mkF m 2 #[.val (.ref r0), .val (.ref r1), .unset] [(.int (1 : Int32))])) _
    refine XS.aloadN X0.here hx rfl (hb hby d3_2) rfl rfl ?_
    show Steps p.tables e below (s₁.setTop (mkF m 3 #[.val (.ref r0), .val (.ref r1), .unset] [(.ref r1), (.int (1 : Int32))])) _
    refine own_lenI X0 hx hZ e0 A_r1 (g := (mkF m 3 #[.val (.ref r0), .val (.ref r1), .unset] [(.ref r1), (.int (1 : Int32))])) rfl rfl (hb hby d3_3) _ ?_
    show Steps p.tables e below (s₁.setTop (mkF m 4 #[.val (.ref r0), .val (.ref r1), .unset] [(.int (1 : Int32)), (.int (1 : Int32))])) _
    refine XS.icmpNo X0.here hx rfl (hb hby d3_4) rfl (teq (by decide : (1 : Int32) = (1 : Int32))).2 ?_
    show Steps p.tables e below (s₁.setTop (mkF m 7 #[.val (.ref r0), .val (.ref r1), .unset] [])) _
    refine XS.iconst X0.here hx rfl (hb hby d3_7) ?_
    show Steps p.tables e below (s₁.setTop (mkF m 8 #[.val (.ref r0), .val (.ref r1), .unset] [(.int (0 : Int32))])) _
    refine XS.istoreN X0.here hx rfl (hb hby d3_8) rfl (l' := #[.val (.ref r0), .val (.ref r1), .val (.int (0 : Int32))]) rfl ?_
    show Steps p.tables e below (s₁.setTop (mkF m 9 #[.val (.ref r0), .val (.ref r1), .val (.int (0 : Int32))] [])) _
    refine XS.iloadN X0.here hx rfl (hb hby d3_9) rfl ?_
    show Steps p.tables e below (s₁.setTop (mkF m 10 #[.val (.ref r0), .val (.ref r1), .val (.int (0 : Int32))] [(.int (0 : Int32))])) _
    refine XS.aloadN X0.here hx rfl (hb hby d3_10) rfl rfl ?_
    show Steps p.tables e below (s₁.setTop (mkF m 11 #[.val (.ref r0), .val (.ref r1), .val (.int (0 : Int32))] [(.ref r0), (.int (0 : Int32))])) _
    refine own_lenI X0 hx hZ e0 A_r0 (g := (mkF m 11 #[.val (.ref r0), .val (.ref r1), .val (.int (0 : Int32))] [(.ref r0), (.int (0 : Int32))])) rfl rfl (hb hby d3_11) _ ?_
    show Steps p.tables e below (s₁.setTop (mkF m 12 #[.val (.ref r0), .val (.ref r1), .val (.int (0 : Int32))] [(.int (1 : Int32)), (.int (0 : Int32))])) _
    refine XS.icmpNo X0.here hx rfl (hb hby d3_12) rfl (tlt (by decide : (0 : Int32) < (1 : Int32))).2.1 ?_
    show Steps p.tables e below (s₁.setTop (mkF m 15 #[.val (.ref r0), .val (.ref r1), .val (.int (0 : Int32))] [])) _
    refine XS.aloadN X0.here hx rfl (hb hby d3_15) rfl rfl ?_
    show Steps p.tables e below (s₁.setTop (mkF m 16 #[.val (.ref r0), .val (.ref r1), .val (.int (0 : Int32))] [(.ref r0)])) _
    refine XS.iloadN X0.here hx rfl (hb hby d3_16) rfl ?_
    show Steps p.tables e below (s₁.setTop (mkF m 17 #[.val (.ref r0), .val (.ref r1), .val (.int (0 : Int32))] [(.int (0 : Int32)), (.ref r0)])) _
    refine own_ldB X0 hx hZ e0 A_r0 (j := (0 : Int32)) hin17_101 (g := (mkF m 17 #[.val (.ref r0), .val (.ref r1), .val (.int (0 : Int32))] [(.int (0 : Int32)), (.ref r0)])) rfl rfl (hb hby d3_17) _ ?_
    show Steps p.tables e below (s₁.setTop (mkF m 18 #[.val (.ref r0), .val (.ref r1), .val (.int (0 : Int32))] [(.int (f 0))])) _
    refine XS.aloadN X0.here hx rfl (hb hby d3_18) rfl rfl ?_
    show Steps p.tables e below (s₁.setTop (mkF m 19 #[.val (.ref r0), .val (.ref r1), .val (.int (0 : Int32))] [(.ref r1), (.int (f 0))])) _
    refine XS.iloadN X0.here hx rfl (hb hby d3_19) rfl ?_
    show Steps p.tables e below (s₁.setTop (mkF m 20 #[.val (.ref r0), .val (.ref r1), .val (.int (0 : Int32))] [(.int (0 : Int32)), (.ref r1), (.int (f 0))])) _
    refine own_ldB X0 hx hZ e0 A_r1 (j := (0 : Int32)) hin20_102 (g := (mkF m 20 #[.val (.ref r0), .val (.ref r1), .val (.int (0 : Int32))] [(.int (0 : Int32)), (.ref r1), (.int (f 0))])) rfl rfl (hb hby d3_20) _ ?_
    show Steps p.tables e below (s₁.setTop (mkF m 21 #[.val (.ref r0), .val (.ref r1), .val (.int (0 : Int32))] [(.int (g 0)), (.int (f 0))])) _
    refine XS.icmpYes X0.here hx rfl (pc0 := 21) (pc' := 26) rfl (hb hby d3_21) rfl (teq hab).1 (by decide) (by decide) ?_
    show Steps p.tables e below (s₁.setTop (mkF m 26 #[.val (.ref r0), .val (.ref r1), .val (.int (0 : Int32))] [])) _
    refine XS.iinc X0.here hx rfl (hb hby d3_26) rfl (l' := #[.val (.ref r0), .val (.ref r1), .val (.int ((0 : Int32) + (1 : Int32)))]) rfl ?_
    rw [show ((0 : Int32) + (1 : Int32)) = (1 : Int32) from by decide]
    show Steps p.tables e below (s₁.setTop (mkF m 29 #[.val (.ref r0), .val (.ref r1), .val (.int (1 : Int32))] [])) _
    refine XS.goto X0.here hx rfl (pc0 := 29) (pc' := 9) rfl (hb hby d3_29) (by decide) (by decide) ?_
    show Steps p.tables e below (s₁.setTop (mkF m 9 #[.val (.ref r0), .val (.ref r1), .val (.int (1 : Int32))] [])) _
    refine XS.iloadN X0.here hx rfl (hb hby d3_9) rfl ?_
    show Steps p.tables e below (s₁.setTop (mkF m 10 #[.val (.ref r0), .val (.ref r1), .val (.int (1 : Int32))] [(.int (1 : Int32))])) _
    refine XS.aloadN X0.here hx rfl (hb hby d3_10) rfl rfl ?_
    show Steps p.tables e below (s₁.setTop (mkF m 11 #[.val (.ref r0), .val (.ref r1), .val (.int (1 : Int32))] [(.ref r0), (.int (1 : Int32))])) _
    refine own_lenI X0 hx hZ e0 A_r0 (g := (mkF m 11 #[.val (.ref r0), .val (.ref r1), .val (.int (1 : Int32))] [(.ref r0), (.int (1 : Int32))])) rfl rfl (hb hby d3_11) _ ?_
    show Steps p.tables e below (s₁.setTop (mkF m 12 #[.val (.ref r0), .val (.ref r1), .val (.int (1 : Int32))] [(.int (1 : Int32)), (.int (1 : Int32))])) _
    refine XS.icmpYes X0.here hx rfl (pc0 := 12) (pc' := 32) rfl (hb hby d3_12) rfl (flt (by decide : ¬ ((1 : Int32) < (1 : Int32)))).2.1 (by decide) (by decide) ?_
    show Steps p.tables e below (s₁.setTop (mkF m 32 #[.val (.ref r0), .val (.ref r1), .val (.int (1 : Int32))] [])) _
    refine XS.iconst X0.here hx rfl (hb hby d3_32) ?_
    exact kt
  refine own_go hgo103 ?_
  exact own_retZ X0 hx Bd.returns Bd.notSynchronized (hb hby d3_33) (by decide) (by decide) (Or.inr rfl) (by rw [e0]; exact ⟨(by rfl), N0, rfl⟩)
theorem d3_24 : decode jdk_43_method_13_code 24 = .ok (.iconst 0, 1) := by decide +kernel
theorem d3_25 : decode jdk_43_method_13_code 25 = .ok (.ireturn, 1) := by decide +kernel
theorem ef_30 (m : MethodId) (r0 : Addr) (r1 : Addr) : entryFrame m #[(.ref r0), (.ref r1)] 3 = mkF m 0 #[.val (.ref r0), .val (.ref r1), .unset] [] := by (first | (simp [entryFrame, mkF, argsToLocals, Value.category]; done) | rfl)
def Q30 (Z : State) (r0 : Addr) (r1 : Addr) (f : Nat → Int32) (g : Nat → Int32) (h0 : Heap) (n0 : Nat) (v : Option Value) (h : Heap) (L : List Loc) : Prop := v = some (.int (0 : Int32)) ∧ Fr n0 L ∧ h = h0
set_option maxRecDepth 65536 in
set_option maxHeartbeats 40000000 in
theorem rm30 (l : Launch) (Z : State) (a0 : Array Value) (hw : ∀ d ∈ tables_1, d.before a0 Z = true) (ws : List Jvm.Cond) (r0 : Addr) (r1 : Addr) (f : Nat → Int32) (g : Nat → Int32) (h0 : Heap) (n0 : Nat) (Z0 : n0 ≤ h0.size) (A_r0 : own_AI Z h0 r0 .byte 1 f) (A_r1 : own_AI Z h0 r1 .byte 1 g) (hab : ¬ ((f 0) = (g 0))) :
    MetFree l (⟨"java/lang/StringLatin1", "equals", "([B[B)Z"⟩ : MethodName) (head1 (Jvm.Cond.code (⟨"java/lang/StringLatin1", "equals", "([B[B)Z"⟩ : MethodName) jdk_43_method_13_code 3 (some .boolean) :: ws) ({ frames := 0, cells := 0, slots := 0, locals := 0 } : Room)) (fun a U => a = #[(.ref r0), (.ref r1)] ∧ Z.Warmed39 U.vm ∧ U.heap = h0) (fun _ _ _ _ _ => True) (fun _ U o U' => ∃ v L, o = .returned v ∧ Q30 Z r0 r1 f g h0 n0 v U'.heap L ∧ FrameEnd U o U' L ({ frames := 0, cells := 0, slots := 0, locals := 0 } : Room).cells ({ frames := 0, cells := 0, slots := 0, locals := 0 } : Room).slots) := by
  refine MetFree.of_bodySF (plainFor_of_name pn1) hisR ?_
  intro p e s m args below meth c s₁ Bd hml0 hP hK
  obtain ⟨rfl, hZ, hh⟩ := hP
  have hx := Bd.exec
  have hby := Bd.bytes
  have hml : c.maxLocals = 3 := hml0
  have hown : s.vm.findClass "java/lang/StringLatin1" = some m.cls := findClass_of_methodNamed Bd.named
  have hnm := (name_of_methodNamed Bd.named Bd.method).1
  have X0 : Stand p l e ({ frames := 0, cells := 0, slots := 0, locals := 0 } : Room) s m #[(.ref r0), (.ref r1)] below meth c s₁ [] 0 0 := Stand.of_body Bd
  have e0 : s₁.heap = h0 := by rw [← hh, Bd.state]; rfl
  have N0 := Fr.nil n0
  have K0 : Keep h0 h0 [] := Keep.refl h0 _
  show own_Go p e below s (Q30 Z r0 r1 f g h0 n0) ({ frames := 0, cells := 0, slots := 0, locals := 0 } : Room).cells ({ frames := 0, cells := 0, slots := 0, locals := 0 } : Room).slots (s₁.setTop (entryFrame m #[(.ref r0), (.ref r1)] 3))
  refine own_go (fun t k => castTop (ef_30 m r0 r1) k) ?_
  have hin17_101 : ¬ (0 : Int32) < 0 ∧ (0 : Int32).toNatClampNeg < 1 := by decide
  have hin20_102 : ¬ (0 : Int32) < 0 ∧ (0 : Int32).toNatClampNeg < 1 := by decide
  have hgo103 : ∀ t, Steps p.tables e below (s₁.setTop (mkF m 25 #[.val (.ref r0), .val (.ref r1), .val (.int (0 : Int32))] [(.int (0 : Int32))])) t → Steps p.tables e below (s₁.setTop (mkF m 0 #[.val (.ref r0), .val (.ref r1), .unset] [])) t := by
    intro t kt
    show Steps p.tables e below (s₁.setTop (mkF m 0 #[.val (.ref r0), .val (.ref r1), .unset] [])) _
    refine XS.aloadN X0.here hx rfl (hb hby d3_0) rfl rfl ?_
    show Steps p.tables e below (s₁.setTop (mkF m 1 #[.val (.ref r0), .val (.ref r1), .unset] [(.ref r0)])) _
    refine own_lenI X0 hx hZ e0 A_r0 (g := (mkF m 1 #[.val (.ref r0), .val (.ref r1), .unset] [(.ref r0)])) rfl rfl (hb hby d3_1) _ ?_
    show Steps p.tables e below (s₁.setTop (mkF m 2 #[.val (.ref r0), .val (.ref r1), .unset] [(.int (1 : Int32))])) _
    refine XS.aloadN X0.here hx rfl (hb hby d3_2) rfl rfl ?_
    show Steps p.tables e below (s₁.setTop (mkF m 3 #[.val (.ref r0), .val (.ref r1), .unset] [(.ref r1), (.int (1 : Int32))])) _
    refine own_lenI X0 hx hZ e0 A_r1 (g := (mkF m 3 #[.val (.ref r0), .val (.ref r1), .unset] [(.ref r1), (.int (1 : Int32))])) rfl rfl (hb hby d3_3) _ ?_
    show Steps p.tables e below (s₁.setTop (mkF m 4 #[.val (.ref r0), .val (.ref r1), .unset] [(.int (1 : Int32)), (.int (1 : Int32))])) _
    refine XS.icmpNo X0.here hx rfl (hb hby d3_4) rfl (teq (by decide : (1 : Int32) = (1 : Int32))).2 ?_
    show Steps p.tables e below (s₁.setTop (mkF m 7 #[.val (.ref r0), .val (.ref r1), .unset] [])) _
    refine XS.iconst X0.here hx rfl (hb hby d3_7) ?_
    show Steps p.tables e below (s₁.setTop (mkF m 8 #[.val (.ref r0), .val (.ref r1), .unset] [(.int (0 : Int32))])) _
    refine XS.istoreN X0.here hx rfl (hb hby d3_8) rfl (l' := #[.val (.ref r0), .val (.ref r1), .val (.int (0 : Int32))]) rfl ?_
    show Steps p.tables e below (s₁.setTop (mkF m 9 #[.val (.ref r0), .val (.ref r1), .val (.int (0 : Int32))] [])) _
    refine XS.iloadN X0.here hx rfl (hb hby d3_9) rfl ?_
    show Steps p.tables e below (s₁.setTop (mkF m 10 #[.val (.ref r0), .val (.ref r1), .val (.int (0 : Int32))] [(.int (0 : Int32))])) _
    refine XS.aloadN X0.here hx rfl (hb hby d3_10) rfl rfl ?_
    show Steps p.tables e below (s₁.setTop (mkF m 11 #[.val (.ref r0), .val (.ref r1), .val (.int (0 : Int32))] [(.ref r0), (.int (0 : Int32))])) _
    refine own_lenI X0 hx hZ e0 A_r0 (g := (mkF m 11 #[.val (.ref r0), .val (.ref r1), .val (.int (0 : Int32))] [(.ref r0), (.int (0 : Int32))])) rfl rfl (hb hby d3_11) _ ?_
    show Steps p.tables e below (s₁.setTop (mkF m 12 #[.val (.ref r0), .val (.ref r1), .val (.int (0 : Int32))] [(.int (1 : Int32)), (.int (0 : Int32))])) _
    refine XS.icmpNo X0.here hx rfl (hb hby d3_12) rfl (tlt (by decide : (0 : Int32) < (1 : Int32))).2.1 ?_
    show Steps p.tables e below (s₁.setTop (mkF m 15 #[.val (.ref r0), .val (.ref r1), .val (.int (0 : Int32))] [])) _
    refine XS.aloadN X0.here hx rfl (hb hby d3_15) rfl rfl ?_
    show Steps p.tables e below (s₁.setTop (mkF m 16 #[.val (.ref r0), .val (.ref r1), .val (.int (0 : Int32))] [(.ref r0)])) _
    refine XS.iloadN X0.here hx rfl (hb hby d3_16) rfl ?_
    show Steps p.tables e below (s₁.setTop (mkF m 17 #[.val (.ref r0), .val (.ref r1), .val (.int (0 : Int32))] [(.int (0 : Int32)), (.ref r0)])) _
    refine own_ldB X0 hx hZ e0 A_r0 (j := (0 : Int32)) hin17_101 (g := (mkF m 17 #[.val (.ref r0), .val (.ref r1), .val (.int (0 : Int32))] [(.int (0 : Int32)), (.ref r0)])) rfl rfl (hb hby d3_17) _ ?_
    show Steps p.tables e below (s₁.setTop (mkF m 18 #[.val (.ref r0), .val (.ref r1), .val (.int (0 : Int32))] [(.int (f 0))])) _
    refine XS.aloadN X0.here hx rfl (hb hby d3_18) rfl rfl ?_
    show Steps p.tables e below (s₁.setTop (mkF m 19 #[.val (.ref r0), .val (.ref r1), .val (.int (0 : Int32))] [(.ref r1), (.int (f 0))])) _
    refine XS.iloadN X0.here hx rfl (hb hby d3_19) rfl ?_
    show Steps p.tables e below (s₁.setTop (mkF m 20 #[.val (.ref r0), .val (.ref r1), .val (.int (0 : Int32))] [(.int (0 : Int32)), (.ref r1), (.int (f 0))])) _
    refine own_ldB X0 hx hZ e0 A_r1 (j := (0 : Int32)) hin20_102 (g := (mkF m 20 #[.val (.ref r0), .val (.ref r1), .val (.int (0 : Int32))] [(.int (0 : Int32)), (.ref r1), (.int (f 0))])) rfl rfl (hb hby d3_20) _ ?_
    show Steps p.tables e below (s₁.setTop (mkF m 21 #[.val (.ref r0), .val (.ref r1), .val (.int (0 : Int32))] [(.int (g 0)), (.int (f 0))])) _
    refine XS.icmpNo X0.here hx rfl (hb hby d3_21) rfl (feq hab).1 ?_
    show Steps p.tables e below (s₁.setTop (mkF m 24 #[.val (.ref r0), .val (.ref r1), .val (.int (0 : Int32))] [])) _
    refine XS.iconst X0.here hx rfl (hb hby d3_24) ?_
    exact kt
  refine own_go hgo103 ?_
  exact own_retZ X0 hx Bd.returns Bd.notSynchronized (hb hby d3_25) (by decide) (by decide) (Or.inl rfl) (by rw [e0]; exact ⟨(by rfl), N0, rfl⟩)
theorem pd2 : parseMethodDescriptor "([B[B)Z" = some ⟨[(.array .byte), (.array .byte)], some .boolean⟩ := by decide +kernel
theorem d2_0 : decode jdk_42_method_66_code 0 = .ok (.aload_n 0, 1) := by decide +kernel
theorem d2_1 : decode jdk_42_method_66_code 1 = .ok (.aload_n 1, 1) := by decide +kernel
theorem d2_2 : decode jdk_42_method_66_code 2 = .ok (.if_acmp .ne 5, 3) := by decide +kernel
theorem d2_5 : decode jdk_42_method_66_code 5 = .ok (.iconst 1, 1) := by decide +kernel
theorem d2_6 : decode jdk_42_method_66_code 6 = .ok (.ireturn, 1) := by decide +kernel
theorem d2_7 : decode jdk_42_method_66_code 7 = .ok (.aload_n 1, 1) := by decide +kernel
theorem d2_8 : decode jdk_42_method_66_code 8 = .ok (.instanceof 10, 3) := by decide +kernel
theorem d2_11 : decode jdk_42_method_66_code 11 = .ok (.ifCond .eq 43, 3) := by decide +kernel
theorem d2_14 : decode jdk_42_method_66_code 14 = .ok (.aload_n 1, 1) := by decide +kernel
theorem d2_15 : decode jdk_42_method_66_code 15 = .ok (.checkcast 10, 3) := by decide +kernel
theorem d2_18 : decode jdk_42_method_66_code 18 = .ok (.astore_n 2, 1) := by decide +kernel
theorem d2_19 : decode jdk_42_method_66_code 19 = .ok (.getstatic 38, 3) := by decide +kernel
theorem d2_22 : decode jdk_42_method_66_code 22 = .ok (.ifCond .eq 14, 3) := by decide +kernel
theorem d2_25 : decode jdk_42_method_66_code 25 = .ok (.aload_n 0, 1) := by decide +kernel
theorem d2_26 : decode jdk_42_method_66_code 26 = .ok (.getfield 15, 3) := by decide +kernel
theorem d2_29 : decode jdk_42_method_66_code 29 = .ok (.aload_n 2, 1) := by decide +kernel
theorem d2_30 : decode jdk_42_method_66_code 30 = .ok (.getfield 15, 3) := by decide +kernel
theorem d2_33 : decode jdk_42_method_66_code 33 = .ok (.if_icmp .ne 21, 3) := by decide +kernel
theorem d2_36 : decode jdk_42_method_66_code 36 = .ok (.aload_n 0, 1) := by decide +kernel
theorem d2_37 : decode jdk_42_method_66_code 37 = .ok (.getfield 9, 3) := by decide +kernel
theorem d2_40 : decode jdk_42_method_66_code 40 = .ok (.aload_n 2, 1) := by decide +kernel
theorem d2_41 : decode jdk_42_method_66_code 41 = .ok (.getfield 9, 3) := by decide +kernel
theorem d2_44 : decode jdk_42_method_66_code 44 = .ok (.invokestatic 541, 3) := by decide +kernel
theorem d2_47 : decode jdk_42_method_66_code 47 = .ok (.ifCond .eq 7, 3) := by decide +kernel
theorem d2_50 : decode jdk_42_method_66_code 50 = .ok (.iconst 1, 1) := by decide +kernel
theorem d2_51 : decode jdk_42_method_66_code 51 = .ok (.goto 4, 3) := by decide +kernel
theorem d2_55 : decode jdk_42_method_66_code 55 = .ok (.ireturn, 1) := by decide +kernel
theorem ef_2T (m : MethodId) (r0 : Addr) (r1 : Addr) : entryFrame m #[(.ref r0), (.ref r1)] 3 = mkF m 0 #[.val (.ref r0), .val (.ref r1), .unset] [] := by (first | (simp [entryFrame, mkF, argsToLocals, Value.category]; done) | rfl)
theorem pn3 : plainName "java/lang/String" = true := by first | (simp [plainName, overriddenIn]; done) | decide +kernel
def Q2T (Z : State) (r0 : Addr) (r1 : Addr) (ucs : Int32) (y0 : Addr) (y1 : Addr) (f : Nat → Int32) (g : Nat → Int32) (h0 : Heap) (n0 : Nat) (v : Option Value) (h : Heap) (L : List Loc) : Prop := v = some (.int (1 : Int32)) ∧ Fr n0 L ∧ h = h0
set_option maxRecDepth 65536 in
set_option maxHeartbeats 40000000 in
theorem rm2T (l : Launch) (Z : State) (a0 : Array Value) (hw : ∀ d ∈ tables_1, d.before a0 Z = true) (ws : List Jvm.Cond) (r0 : Addr) (r1 : Addr) (ucs : Int32) (y0 : Addr) (y1 : Addr) (f : Nat → Int32) (g : Nat → Int32) (h0 : Heap) (n0 : Nat) (Z0 : n0 ≤ h0.size) (S_cs : Sta Z h0 "java/lang/String" "COMPACT_STRINGS" "Z" (.int ucs)) (hcs : ¬ (ucs = (0 : Int32))) (E_r0 : Exa Z h0 r0 "java/lang/String") (F_cr0 : Fld Z h0 r0 "java/lang/String" "coder" "B" (.int (0 : Int32))) (F_vr0 : Fld Z h0 r0 "java/lang/String" "value" "[B" (.ref y0)) (A_y0 : own_AI Z h0 y0 .byte 1 f) (E_r1 : Exa Z h0 r1 "java/lang/String") (F_cr1 : Fld Z h0 r1 "java/lang/String" "coder" "B" (.int (0 : Int32))) (F_vr1 : Fld Z h0 r1 "java/lang/String" "value" "[B" (.ref y1)) (A_y1 : own_AI Z h0 y1 .byte 1 g) (hab : (f 0) = (g 0)) :
    MetFree l (⟨"java/lang/String", "equals", "(Ljava/lang/Object;)Z"⟩ : MethodName) (head1 (Jvm.Cond.code (⟨"java/lang/String", "equals", "(Ljava/lang/Object;)Z"⟩ : MethodName) jdk_42_method_66_code 3 (some .boolean) :: ws) ({ frames := 1, cells := 0, slots := 0, locals := 14 } : Room)) (fun a U => a = #[(.ref r0), (.ref r1)] ∧ Z.Warmed39 U.vm ∧ U.heap = h0) (fun _ _ _ _ _ => True) (fun _ U o U' => ∃ v L, o = .returned v ∧ Q2T Z r0 r1 ucs y0 y1 f g h0 n0 v U'.heap L ∧ FrameEnd U o U' L ({ frames := 1, cells := 0, slots := 0, locals := 14 } : Room).cells ({ frames := 1, cells := 0, slots := 0, locals := 14 } : Room).slots) := by
  refine MetFree.of_bodySF (plainFor_of_name pn3) hisR ?_
  intro p e s m args below meth c s₁ Bd hml0 hP hK
  obtain ⟨rfl, hZ, hh⟩ := hP
  have hx := Bd.exec
  have hby := Bd.bytes
  have hml : c.maxLocals = 3 := hml0
  have hown : s.vm.findClass "java/lang/String" = some m.cls := findClass_of_methodNamed Bd.named
  have hnm := (name_of_methodNamed Bd.named Bd.method).1
  have X0 : Stand p l e ({ frames := 1, cells := 0, slots := 0, locals := 14 } : Room) s m #[(.ref r0), (.ref r1)] below meth c s₁ [] 0 0 := Stand.of_body Bd
  have e0 : s₁.heap = h0 := by rw [← hh, Bd.state]; rfl
  have N0 := Fr.nil n0
  have K0 : Keep h0 h0 [] := Keep.refl h0 _
  show own_Go p e below s (Q2T Z r0 r1 ucs y0 y1 f g h0 n0) ({ frames := 1, cells := 0, slots := 0, locals := 14 } : Room).cells ({ frames := 1, cells := 0, slots := 0, locals := 14 } : Room).slots (s₁.setTop (entryFrame m #[(.ref r0), (.ref r1)] 3))
  refine own_go (fun t k => castTop (ef_2T m r0 r1) k) ?_
  have hgo101 : ∀ t, Steps p.tables e below (s₁.setTop (mkF m 2 #[.val (.ref r0), .val (.ref r1), .unset] [(.ref r1), (.ref r0)])) t → Steps p.tables e below (s₁.setTop (mkF m 0 #[.val (.ref r0), .val (.ref r1), .unset] [])) t := by
    intro t kt
    show Steps p.tables e below (s₁.setTop (mkF m 0 #[.val (.ref r0), .val (.ref r1), .unset] [])) _
    refine XS.aloadN X0.here hx rfl (hb hby d2_0) rfl rfl ?_
    show Steps p.tables e below (s₁.setTop (mkF m 1 #[.val (.ref r0), .val (.ref r1), .unset] [(.ref r0)])) _
    refine XS.aloadN X0.here hx rfl (hb hby d2_1) rfl rfl ?_
    exact kt
  refine own_go hgo101 ?_
  by_cases hc2_1 : r0 = r1
  · have hgo102 : ∀ t, Steps p.tables e below (s₁.setTop (mkF m 6 #[.val (.ref r0), .val (.ref r1), .unset] [(.int (1 : Int32))])) t → Steps p.tables e below (s₁.setTop (mkF m 2 #[.val (.ref r0), .val (.ref r1), .unset] [(.ref r1), (.ref r0)])) t := by
      intro t kt
      show Steps p.tables e below (s₁.setTop (mkF m 2 #[.val (.ref r0), .val (.ref r1), .unset] [(.ref r1), (.ref r0)])) _
      refine Jvm.RoadKit.acmp (g := (mkF m 2 #[.val (.ref r0), .val (.ref r1), .unset] [(.ref r1), (.ref r0)])) X0 hx rfl rfl rfl (pc0 := 2) (pc' := 5) (same := true) rfl (hb hby d2_2) rfl (decide_eq_true (congrArg Value.ref hc2_1)) (by decide) (by decide) ?_
      show Steps p.tables e below (s₁.setTop (mkF m 5 #[.val (.ref r0), .val (.ref r1), .unset] [])) _
      refine XS.iconst X0.here hx rfl (hb hby d2_5) ?_
      exact kt
    refine own_go hgo102 ?_
    exact own_retZ X0 hx Bd.returns Bd.notSynchronized (hb hby d2_6) (by decide) (by decide) (Or.inr rfl) (by rw [e0]; exact ⟨(by rfl), N0, rfl⟩)
  · obtain ⟨T103, X103, e103, st103⟩ := instY X0 hx hZ hown (hw _ (List.mem_of_getElem? (i := 23) rfl)) e0 (Ins.self E_r1) (g := (mkF m 8 #[.val (.ref r0), .val (.ref r1), .unset] [(.ref r1)])) rfl rfl (hb hby d2_8)
    obtain ⟨T104, X104, e104, st104⟩ := castY X103 hx hZ hown (hw _ (List.mem_of_getElem? (i := 23) rfl)) e103 (Ins.self E_r1) (g := (mkF m 15 #[.val (.ref r0), .val (.ref r1), .unset] [(.ref r1)])) rfl rfl (hb hby d2_15)
    obtain ⟨T105, X105, e105, st105⟩ := getS2 X104 hx hZ hown (host := "") (Or.inl (hw _ (List.mem_of_getElem? (i := 25) rfl))) Via.refl e104 S_cs (g := (mkF m 19 #[.val (.ref r0), .val (.ref r1), .val (.ref r1)] [])) rfl (hb hby d2_19)
    obtain ⟨T106, X106, e106, st106⟩ := getF X105 hx hZ hown (host := "") (Or.inl (hw _ (List.mem_of_getElem? (i := 26) rfl))) Via.refl e105 F_cr0 (g := (mkF m 26 #[.val (.ref r0), .val (.ref r1), .val (.ref r1)] [(.ref r0)])) rfl rfl (hb hby d2_26)
    obtain ⟨T107, X107, e107, st107⟩ := getF X106 hx hZ hown (host := "") (Or.inl (hw _ (List.mem_of_getElem? (i := 26) rfl))) Via.refl e106 F_cr1 (g := (mkF m 30 #[.val (.ref r0), .val (.ref r1), .val (.ref r1)] [(.ref r1), (.int (0 : Int32))])) rfl rfl (hb hby d2_30)
    obtain ⟨T108, X108, e108, st108⟩ := getF X107 hx hZ hown (host := "") (Or.inl (hw _ (List.mem_of_getElem? (i := 27) rfl))) Via.refl e107 F_vr0 (g := (mkF m 37 #[.val (.ref r0), .val (.ref r1), .val (.ref r1)] [(.ref r0)])) rfl rfl (hb hby d2_37)
    obtain ⟨T109, X109, e109, st109⟩ := getF X108 hx hZ hown (host := "") (Or.inl (hw _ (List.mem_of_getElem? (i := 27) rfl))) Via.refl e108 F_vr1 (g := (mkF m 41 #[.val (.ref r0), .val (.ref r1), .val (.ref r1)] [(.ref r1), (.ref y0)])) rfl rfl (hb hby d2_41)
    obtain ⟨_, _, ⟨T110, L110, k110, n110⟩, -, X110, ⟨Lc110, hQ110, l110, y110, z110⟩, st110⟩ := Jvm.LawKit.callS X109 hx (y := (⟨"java/lang/StringLatin1", "equals", "([B[B)Z"⟩ : MethodName)) hown (mvT hZ (hw _ (List.mem_of_getElem? (i := 28) rfl))) (mvT hZ (hw _ (List.mem_of_getElem? (i := 29) rfl))) (mvT hZ (hw _ (List.mem_of_getElem? (i := 30) rfl))) (mvT hZ (hw _ (List.mem_of_getElem? (i := 31) rfl))) (by decide) (backOf (W := 0) (rm31 l Z a0 hw [] y0 y1 f g h0 n0 Z0 A_y0 A_y1 (by first | assumption | decide : (f 0) = (g 0))) hZ (hw _ (List.mem_of_getElem? (i := 31) rfl)) (hw _ (List.mem_of_getElem? (i := 30) rfl)) (by decide) (by decide)) (g := (mkF m 44 #[.val (.ref r0), .val (.ref r1), .val (.ref r1)] [(.ref y1), (.ref y0)])) rfl (by rw [hml]; rfl) (argsL := [(.ref y0), (.ref y1)]) (rest := []) (lenOf pd2 rfl) rfl (by show 2 * 0 + _ ≤ _; exact Nat.le_of_eq rfl) (hb hby d2_44) (fun _ _ => ⟨rfl, e109, (by decide : 0 + 0 ≤ _), (by decide : 0 + 0 ≤ _)⟩)
    dsimp only [Pt.U, Pt.locs, Pt.cells, Pt.slots] at X110 l110 y110 z110 st110 hQ110
    subst l110 y110 z110
    obtain ⟨rfl, N110q, e110⟩ := hQ110
    have N110 := Fr.app N0 N110q
    have hgo111 : ∀ t, Steps p.tables e below (T110.setTop (mkF m 55 #[.val (.ref r0), .val (.ref r1), .val (.ref r1)] [(.int (1 : Int32))])) t → Steps p.tables e below (s₁.setTop (mkF m 2 #[.val (.ref r0), .val (.ref r1), .unset] [(.ref r1), (.ref r0)])) t := by
      intro t kt
      show Steps p.tables e below (s₁.setTop (mkF m 2 #[.val (.ref r0), .val (.ref r1), .unset] [(.ref r1), (.ref r0)])) _
      refine Jvm.RoadKit.acmp (g := (mkF m 2 #[.val (.ref r0), .val (.ref r1), .unset] [(.ref r1), (.ref r0)])) X0 hx rfl rfl rfl (pc0 := 2) (pc' := 7) (same := false) rfl (hb hby d2_2) rfl (decide_eq_false fun q => hc2_1 (Value.ref.inj q)) (by decide) (by decide) ?_
      show Steps p.tables e below (s₁.setTop (mkF m 7 #[.val (.ref r0), .val (.ref r1), .unset] [])) _
      refine XS.aloadN X0.here hx rfl (hb hby d2_7) rfl rfl ?_
      show Steps p.tables e below (s₁.setTop (mkF m 8 #[.val (.ref r0), .val (.ref r1), .unset] [(.ref r1)])) _
      refine st103 _ ?_
      show Steps p.tables e below (T103.setTop (mkF m 11 #[.val (.ref r0), .val (.ref r1), .unset] [(.int (1 : Int32))])) _
      refine XS.ifNo X103.here hx rfl (hb hby d2_11) rfl ((if0 _ _).trans (feq (by decide : ¬ ((1 : Int32) = (0 : Int32)))).1) ?_
      show Steps p.tables e below (T103.setTop (mkF m 14 #[.val (.ref r0), .val (.ref r1), .unset] [])) _
      refine XS.aloadN X103.here hx rfl (hb hby d2_14) rfl rfl ?_
      show Steps p.tables e below (T103.setTop (mkF m 15 #[.val (.ref r0), .val (.ref r1), .unset] [(.ref r1)])) _
      refine st104 _ ?_
      show Steps p.tables e below (T104.setTop (mkF m 18 #[.val (.ref r0), .val (.ref r1), .unset] [(.ref r1)])) _
      refine XS.astoreN X104.here hx rfl (hb hby d2_18) rfl rfl (l' := #[.val (.ref r0), .val (.ref r1), .val (.ref r1)]) rfl ?_
      show Steps p.tables e below (T104.setTop (mkF m 19 #[.val (.ref r0), .val (.ref r1), .val (.ref r1)] [])) _
      refine st105 _ ?_
      show Steps p.tables e below (T105.setTop (mkF m 22 #[.val (.ref r0), .val (.ref r1), .val (.ref r1)] [(.int ucs)])) _
      refine XS.ifNo X105.here hx rfl (hb hby d2_22) rfl ((if0 _ _).trans (feq hcs).1) ?_
      show Steps p.tables e below (T105.setTop (mkF m 25 #[.val (.ref r0), .val (.ref r1), .val (.ref r1)] [])) _
      refine XS.aloadN X105.here hx rfl (hb hby d2_25) rfl rfl ?_
      show Steps p.tables e below (T105.setTop (mkF m 26 #[.val (.ref r0), .val (.ref r1), .val (.ref r1)] [(.ref r0)])) _
      refine st106 _ ?_
      show Steps p.tables e below (T106.setTop (mkF m 29 #[.val (.ref r0), .val (.ref r1), .val (.ref r1)] [(.int (0 : Int32))])) _
      refine XS.aloadN X106.here hx rfl (hb hby d2_29) rfl rfl ?_
      show Steps p.tables e below (T106.setTop (mkF m 30 #[.val (.ref r0), .val (.ref r1), .val (.ref r1)] [(.ref r1), (.int (0 : Int32))])) _
      refine st107 _ ?_
      show Steps p.tables e below (T107.setTop (mkF m 33 #[.val (.ref r0), .val (.ref r1), .val (.ref r1)] [(.int (0 : Int32)), (.int (0 : Int32))])) _
      refine XS.icmpNo X107.here hx rfl (hb hby d2_33) rfl (teq (by decide : (0 : Int32) = (0 : Int32))).2 ?_
      show Steps p.tables e below (T107.setTop (mkF m 36 #[.val (.ref r0), .val (.ref r1), .val (.ref r1)] [])) _
      refine XS.aloadN X107.here hx rfl (hb hby d2_36) rfl rfl ?_
      show Steps p.tables e below (T107.setTop (mkF m 37 #[.val (.ref r0), .val (.ref r1), .val (.ref r1)] [(.ref r0)])) _
      refine st108 _ ?_
      show Steps p.tables e below (T108.setTop (mkF m 40 #[.val (.ref r0), .val (.ref r1), .val (.ref r1)] [(.ref y0)])) _
      refine XS.aloadN X108.here hx rfl (hb hby d2_40) rfl rfl ?_
      show Steps p.tables e below (T108.setTop (mkF m 41 #[.val (.ref r0), .val (.ref r1), .val (.ref r1)] [(.ref r1), (.ref y0)])) _
      refine st109 _ ?_
      show Steps p.tables e below (T109.setTop (mkF m 44 #[.val (.ref r0), .val (.ref r1), .val (.ref r1)] [(.ref y1), (.ref y0)])) _
      refine st110 _ ?_
      show Steps p.tables e below (T110.setTop (mkF m 47 #[.val (.ref r0), .val (.ref r1), .val (.ref r1)] [(.int (1 : Int32))])) _
      refine XS.ifNo X110.here hx rfl (hb hby d2_47) rfl ((if0 _ _).trans (feq (by decide : ¬ ((1 : Int32) = (0 : Int32)))).1) ?_
      show Steps p.tables e below (T110.setTop (mkF m 50 #[.val (.ref r0), .val (.ref r1), .val (.ref r1)] [])) _
      refine XS.iconst X110.here hx rfl (hb hby d2_50) ?_
      show Steps p.tables e below (T110.setTop (mkF m 51 #[.val (.ref r0), .val (.ref r1), .val (.ref r1)] [(.int (1 : Int32))])) _
      refine XS.goto X110.here hx rfl (pc0 := 51) (pc' := 55) rfl (hb hby d2_51) (by decide) (by decide) ?_
      exact kt
    refine own_go hgo111 ?_
    exact own_retZ X110 hx Bd.returns Bd.notSynchronized (hb hby d2_55) (by decide) (by decide) (Or.inr rfl) (by rw [e110]; exact ⟨(by rfl), N110, rfl⟩)
theorem d2_54 : decode jdk_42_method_66_code 54 = .ok (.iconst 0, 1) := by decide +kernel
theorem ef_2F (m : MethodId) (r0 : Addr) (r1 : Addr) : entryFrame m #[(.ref r0), (.ref r1)] 3 = mkF m 0 #[.val (.ref r0), .val (.ref r1), .unset] [] := by (first | (simp [entryFrame, mkF, argsToLocals, Value.category]; done) | rfl)
def Q2F (Z : State) (r0 : Addr) (r1 : Addr) (ucs : Int32) (y0 : Addr) (y1 : Addr) (f : Nat → Int32) (g : Nat → Int32) (h0 : Heap) (n0 : Nat) (v : Option Value) (h : Heap) (L : List Loc) : Prop := v = some (.int (0 : Int32)) ∧ Fr n0 L ∧ h = h0
set_option maxRecDepth 65536 in
set_option maxHeartbeats 40000000 in
theorem rm2F (l : Launch) (Z : State) (a0 : Array Value) (hw : ∀ d ∈ tables_1, d.before a0 Z = true) (ws : List Jvm.Cond) (r0 : Addr) (r1 : Addr) (ucs : Int32) (y0 : Addr) (y1 : Addr) (f : Nat → Int32) (g : Nat → Int32) (h0 : Heap) (n0 : Nat) (Z0 : n0 ≤ h0.size) (S_cs : Sta Z h0 "java/lang/String" "COMPACT_STRINGS" "Z" (.int ucs)) (hcs : ¬ (ucs = (0 : Int32))) (E_r0 : Exa Z h0 r0 "java/lang/String") (F_cr0 : Fld Z h0 r0 "java/lang/String" "coder" "B" (.int (0 : Int32))) (F_vr0 : Fld Z h0 r0 "java/lang/String" "value" "[B" (.ref y0)) (A_y0 : own_AI Z h0 y0 .byte 1 f) (E_r1 : Exa Z h0 r1 "java/lang/String") (F_cr1 : Fld Z h0 r1 "java/lang/String" "coder" "B" (.int (0 : Int32))) (F_vr1 : Fld Z h0 r1 "java/lang/String" "value" "[B" (.ref y1)) (A_y1 : own_AI Z h0 y1 .byte 1 g) (hab : ¬ ((f 0) = (g 0))) :
    MetFree l (⟨"java/lang/String", "equals", "(Ljava/lang/Object;)Z"⟩ : MethodName) (head1 (Jvm.Cond.code (⟨"java/lang/String", "equals", "(Ljava/lang/Object;)Z"⟩ : MethodName) jdk_42_method_66_code 3 (some .boolean) :: ws) ({ frames := 1, cells := 0, slots := 0, locals := 14 } : Room)) (fun a U => a = #[(.ref r0), (.ref r1)] ∧ Z.Warmed39 U.vm ∧ U.heap = h0) (fun _ _ _ _ _ => True) (fun _ U o U' => ∃ v L, o = .returned v ∧ Q2F Z r0 r1 ucs y0 y1 f g h0 n0 v U'.heap L ∧ FrameEnd U o U' L ({ frames := 1, cells := 0, slots := 0, locals := 14 } : Room).cells ({ frames := 1, cells := 0, slots := 0, locals := 14 } : Room).slots) := by
  refine MetFree.of_bodySF (plainFor_of_name pn3) hisR ?_
  intro p e s m args below meth c s₁ Bd hml0 hP hK
  obtain ⟨rfl, hZ, hh⟩ := hP
  have hx := Bd.exec
  have hby := Bd.bytes
  have hml : c.maxLocals = 3 := hml0
  have hown : s.vm.findClass "java/lang/String" = some m.cls := findClass_of_methodNamed Bd.named
  have hnm := (name_of_methodNamed Bd.named Bd.method).1
  have X0 : Stand p l e ({ frames := 1, cells := 0, slots := 0, locals := 14 } : Room) s m #[(.ref r0), (.ref r1)] below meth c s₁ [] 0 0 := Stand.of_body Bd
  have e0 : s₁.heap = h0 := by rw [← hh, Bd.state]; rfl
  have N0 := Fr.nil n0
  have K0 : Keep h0 h0 [] := Keep.refl h0 _
  show own_Go p e below s (Q2F Z r0 r1 ucs y0 y1 f g h0 n0) ({ frames := 1, cells := 0, slots := 0, locals := 14 } : Room).cells ({ frames := 1, cells := 0, slots := 0, locals := 14 } : Room).slots (s₁.setTop (entryFrame m #[(.ref r0), (.ref r1)] 3))
  refine own_go (fun t k => castTop (ef_2F m r0 r1) k) ?_
  have hner : r0 ≠ r1 := own_symNe F_vr0 F_vr1 A_y0 A_y1 hab
  obtain ⟨T101, X101, e101, st101⟩ := instY X0 hx hZ hown (hw _ (List.mem_of_getElem? (i := 23) rfl)) e0 (Ins.self E_r1) (g := (mkF m 8 #[.val (.ref r0), .val (.ref r1), .unset] [(.ref r1)])) rfl rfl (hb hby d2_8)
  obtain ⟨T102, X102, e102, st102⟩ := castY X101 hx hZ hown (hw _ (List.mem_of_getElem? (i := 23) rfl)) e101 (Ins.self E_r1) (g := (mkF m 15 #[.val (.ref r0), .val (.ref r1), .unset] [(.ref r1)])) rfl rfl (hb hby d2_15)
  obtain ⟨T103, X103, e103, st103⟩ := getS2 X102 hx hZ hown (host := "") (Or.inl (hw _ (List.mem_of_getElem? (i := 25) rfl))) Via.refl e102 S_cs (g := (mkF m 19 #[.val (.ref r0), .val (.ref r1), .val (.ref r1)] [])) rfl (hb hby d2_19)
  obtain ⟨T104, X104, e104, st104⟩ := getF X103 hx hZ hown (host := "") (Or.inl (hw _ (List.mem_of_getElem? (i := 26) rfl))) Via.refl e103 F_cr0 (g := (mkF m 26 #[.val (.ref r0), .val (.ref r1), .val (.ref r1)] [(.ref r0)])) rfl rfl (hb hby d2_26)
  obtain ⟨T105, X105, e105, st105⟩ := getF X104 hx hZ hown (host := "") (Or.inl (hw _ (List.mem_of_getElem? (i := 26) rfl))) Via.refl e104 F_cr1 (g := (mkF m 30 #[.val (.ref r0), .val (.ref r1), .val (.ref r1)] [(.ref r1), (.int (0 : Int32))])) rfl rfl (hb hby d2_30)
  obtain ⟨T106, X106, e106, st106⟩ := getF X105 hx hZ hown (host := "") (Or.inl (hw _ (List.mem_of_getElem? (i := 27) rfl))) Via.refl e105 F_vr0 (g := (mkF m 37 #[.val (.ref r0), .val (.ref r1), .val (.ref r1)] [(.ref r0)])) rfl rfl (hb hby d2_37)
  obtain ⟨T107, X107, e107, st107⟩ := getF X106 hx hZ hown (host := "") (Or.inl (hw _ (List.mem_of_getElem? (i := 27) rfl))) Via.refl e106 F_vr1 (g := (mkF m 41 #[.val (.ref r0), .val (.ref r1), .val (.ref r1)] [(.ref r1), (.ref y0)])) rfl rfl (hb hby d2_41)
  obtain ⟨_, _, ⟨T108, L108, k108, n108⟩, -, X108, ⟨Lc108, hQ108, l108, y108, z108⟩, st108⟩ := Jvm.LawKit.callS X107 hx (y := (⟨"java/lang/StringLatin1", "equals", "([B[B)Z"⟩ : MethodName)) hown (mvT hZ (hw _ (List.mem_of_getElem? (i := 28) rfl))) (mvT hZ (hw _ (List.mem_of_getElem? (i := 29) rfl))) (mvT hZ (hw _ (List.mem_of_getElem? (i := 30) rfl))) (mvT hZ (hw _ (List.mem_of_getElem? (i := 31) rfl))) (by decide) (backOf (W := 0) (rm30 l Z a0 hw [] y0 y1 f g h0 n0 Z0 A_y0 A_y1 (by first | assumption | decide : ¬ ((f 0) = (g 0)))) hZ (hw _ (List.mem_of_getElem? (i := 31) rfl)) (hw _ (List.mem_of_getElem? (i := 30) rfl)) (by decide) (by decide)) (g := (mkF m 44 #[.val (.ref r0), .val (.ref r1), .val (.ref r1)] [(.ref y1), (.ref y0)])) rfl (by rw [hml]; rfl) (argsL := [(.ref y0), (.ref y1)]) (rest := []) (lenOf pd2 rfl) rfl (by show 2 * 0 + _ ≤ _; exact Nat.le_of_eq rfl) (hb hby d2_44) (fun _ _ => ⟨rfl, e107, (by decide : 0 + 0 ≤ _), (by decide : 0 + 0 ≤ _)⟩)
  dsimp only [Pt.U, Pt.locs, Pt.cells, Pt.slots] at X108 l108 y108 z108 st108 hQ108
  subst l108 y108 z108
  obtain ⟨rfl, N108q, e108⟩ := hQ108
  have N108 := Fr.app N0 N108q
  have hgo109 : ∀ t, Steps p.tables e below (T108.setTop (mkF m 55 #[.val (.ref r0), .val (.ref r1), .val (.ref r1)] [(.int (0 : Int32))])) t → Steps p.tables e below (s₁.setTop (mkF m 0 #[.val (.ref r0), .val (.ref r1), .unset] [])) t := by
    intro t kt
    show Steps p.tables e below (s₁.setTop (mkF m 0 #[.val (.ref r0), .val (.ref r1), .unset] [])) _
    refine XS.aloadN X0.here hx rfl (hb hby d2_0) rfl rfl ?_
    show Steps p.tables e below (s₁.setTop (mkF m 1 #[.val (.ref r0), .val (.ref r1), .unset] [(.ref r0)])) _
    refine XS.aloadN X0.here hx rfl (hb hby d2_1) rfl rfl ?_
    show Steps p.tables e below (s₁.setTop (mkF m 2 #[.val (.ref r0), .val (.ref r1), .unset] [(.ref r1), (.ref r0)])) _
    refine Jvm.RoadKit.acmp (g := (mkF m 2 #[.val (.ref r0), .val (.ref r1), .unset] [(.ref r1), (.ref r0)])) X0 hx rfl rfl rfl (pc0 := 2) (pc' := 7) (same := false) rfl (hb hby d2_2) rfl (decide_eq_false fun q => hner (Value.ref.inj q)) (by decide) (by decide) ?_
    show Steps p.tables e below (s₁.setTop (mkF m 7 #[.val (.ref r0), .val (.ref r1), .unset] [])) _
    refine XS.aloadN X0.here hx rfl (hb hby d2_7) rfl rfl ?_
    show Steps p.tables e below (s₁.setTop (mkF m 8 #[.val (.ref r0), .val (.ref r1), .unset] [(.ref r1)])) _
    refine st101 _ ?_
    show Steps p.tables e below (T101.setTop (mkF m 11 #[.val (.ref r0), .val (.ref r1), .unset] [(.int (1 : Int32))])) _
    refine XS.ifNo X101.here hx rfl (hb hby d2_11) rfl ((if0 _ _).trans (feq (by decide : ¬ ((1 : Int32) = (0 : Int32)))).1) ?_
    show Steps p.tables e below (T101.setTop (mkF m 14 #[.val (.ref r0), .val (.ref r1), .unset] [])) _
    refine XS.aloadN X101.here hx rfl (hb hby d2_14) rfl rfl ?_
    show Steps p.tables e below (T101.setTop (mkF m 15 #[.val (.ref r0), .val (.ref r1), .unset] [(.ref r1)])) _
    refine st102 _ ?_
    show Steps p.tables e below (T102.setTop (mkF m 18 #[.val (.ref r0), .val (.ref r1), .unset] [(.ref r1)])) _
    refine XS.astoreN X102.here hx rfl (hb hby d2_18) rfl rfl (l' := #[.val (.ref r0), .val (.ref r1), .val (.ref r1)]) rfl ?_
    show Steps p.tables e below (T102.setTop (mkF m 19 #[.val (.ref r0), .val (.ref r1), .val (.ref r1)] [])) _
    refine st103 _ ?_
    show Steps p.tables e below (T103.setTop (mkF m 22 #[.val (.ref r0), .val (.ref r1), .val (.ref r1)] [(.int ucs)])) _
    refine XS.ifNo X103.here hx rfl (hb hby d2_22) rfl ((if0 _ _).trans (feq hcs).1) ?_
    show Steps p.tables e below (T103.setTop (mkF m 25 #[.val (.ref r0), .val (.ref r1), .val (.ref r1)] [])) _
    refine XS.aloadN X103.here hx rfl (hb hby d2_25) rfl rfl ?_
    show Steps p.tables e below (T103.setTop (mkF m 26 #[.val (.ref r0), .val (.ref r1), .val (.ref r1)] [(.ref r0)])) _
    refine st104 _ ?_
    show Steps p.tables e below (T104.setTop (mkF m 29 #[.val (.ref r0), .val (.ref r1), .val (.ref r1)] [(.int (0 : Int32))])) _
    refine XS.aloadN X104.here hx rfl (hb hby d2_29) rfl rfl ?_
    show Steps p.tables e below (T104.setTop (mkF m 30 #[.val (.ref r0), .val (.ref r1), .val (.ref r1)] [(.ref r1), (.int (0 : Int32))])) _
    refine st105 _ ?_
    show Steps p.tables e below (T105.setTop (mkF m 33 #[.val (.ref r0), .val (.ref r1), .val (.ref r1)] [(.int (0 : Int32)), (.int (0 : Int32))])) _
    refine XS.icmpNo X105.here hx rfl (hb hby d2_33) rfl (teq (by decide : (0 : Int32) = (0 : Int32))).2 ?_
    show Steps p.tables e below (T105.setTop (mkF m 36 #[.val (.ref r0), .val (.ref r1), .val (.ref r1)] [])) _
    refine XS.aloadN X105.here hx rfl (hb hby d2_36) rfl rfl ?_
    show Steps p.tables e below (T105.setTop (mkF m 37 #[.val (.ref r0), .val (.ref r1), .val (.ref r1)] [(.ref r0)])) _
    refine st106 _ ?_
    show Steps p.tables e below (T106.setTop (mkF m 40 #[.val (.ref r0), .val (.ref r1), .val (.ref r1)] [(.ref y0)])) _
    refine XS.aloadN X106.here hx rfl (hb hby d2_40) rfl rfl ?_
    show Steps p.tables e below (T106.setTop (mkF m 41 #[.val (.ref r0), .val (.ref r1), .val (.ref r1)] [(.ref r1), (.ref y0)])) _
    refine st107 _ ?_
    show Steps p.tables e below (T107.setTop (mkF m 44 #[.val (.ref r0), .val (.ref r1), .val (.ref r1)] [(.ref y1), (.ref y0)])) _
    refine st108 _ ?_
    show Steps p.tables e below (T108.setTop (mkF m 47 #[.val (.ref r0), .val (.ref r1), .val (.ref r1)] [(.int (0 : Int32))])) _
    refine XS.ifYes X108.here hx rfl (pc0 := 47) (pc' := 54) rfl (hb hby d2_47) rfl ((if0 _ _).trans (teq (by decide : (0 : Int32) = (0 : Int32))).1) (by decide) (by decide) ?_
    show Steps p.tables e below (T108.setTop (mkF m 54 #[.val (.ref r0), .val (.ref r1), .val (.ref r1)] [])) _
    refine XS.iconst X108.here hx rfl (hb hby d2_54) ?_
    exact kt
  refine own_go hgo109 ?_
  exact own_retZ X108 hx Bd.returns Bd.notSynchronized (hb hby d2_55) (by decide) (by decide) (Or.inl rfl) (by rw [e108]; exact ⟨(by rfl), N108, rfl⟩)
theorem d4_0 : decode prog_80_method_5_code 0 = .ok (.aload_n 0, 1) := by decide +kernel
theorem d4_1 : decode prog_80_method_5_code 1 = .ok (.getstatic 3, 3) := by decide +kernel
theorem d4_4 : decode prog_80_method_5_code 4 = .ok (.if_acmp .eq 10, 3) := by decide +kernel
theorem d4_7 : decode prog_80_method_5_code 7 = .ok (.aload_n 0, 1) := by decide +kernel
theorem d4_8 : decode prog_80_method_5_code 8 = .ok (.getstatic 7, 3) := by decide +kernel
theorem d4_11 : decode prog_80_method_5_code 11 = .ok (.if_acmp .ne 7, 3) := by decide +kernel
theorem d4_14 : decode prog_80_method_5_code 14 = .ok (.iconst 1, 1) := by decide +kernel
theorem d4_15 : decode prog_80_method_5_code 15 = .ok (.goto 4, 3) := by decide +kernel
theorem d4_18 : decode prog_80_method_5_code 18 = .ok (.iconst 0, 1) := by decide +kernel
theorem d4_19 : decode prog_80_method_5_code 19 = .ok (.ireturn, 1) := by decide +kernel
theorem ef_4 (m : MethodId) (r0 : Addr) : entryFrame m #[(.ref r0)] 1 = mkF m 0 #[.val (.ref r0)] [] := by (first | (simp [entryFrame, mkF, argsToLocals, Value.category]; done) | rfl)
def own_r4 (r0 : Addr) (u1 : Addr) (u2 : Addr) : Int32 := (if r0 = u1 then (1 : Int32) else (if r0 = u2 then (1 : Int32) else (0 : Int32)))
theorem own_r4_b (r0 : Addr) (u1 : Addr) (u2 : Addr) : own_r4 r0 u1 u2 = 0 ∨ own_r4 r0 u1 u2 = 1 := by unfold own_r4; exact (own_ite01 (Or.inr rfl) (own_ite01 (Or.inr rfl) (Or.inl rfl)))
def Q4 (Z : State) (r0 : Addr) (u1 : Addr) (u2 : Addr) (h0 : Heap) (n0 : Nat) (v : Option Value) (h : Heap) (L : List Loc) : Prop := v = some (.int (own_r4 r0 u1 u2)) ∧ Fr n0 L ∧ h = h0
set_option maxRecDepth 65536 in
set_option maxHeartbeats 40000000 in
theorem rm4 (l : Launch) (Z : State) (a0 : Array Value) (hw : ∀ d ∈ tables_1, d.before a0 Z = true) (ws : List Jvm.Cond) (r0 : Addr) (u1 : Addr) (u2 : Addr) (h0 : Heap) (n0 : Nat) (Z0 : n0 ≤ h0.size) (S_ADD : Sta Z h0 "com/example/muset/muset/sparql/Arithmetic$Operator" "ADD" "Lcom/example/muset/muset/sparql/Arithmetic$Operator;" (.ref u1)) (S_SUBTRACT : Sta Z h0 "com/example/muset/muset/sparql/Arithmetic$Operator" "SUBTRACT" "Lcom/example/muset/muset/sparql/Arithmetic$Operator;" (.ref u2)) :
    MetFree l (⟨"com/example/muset/muset/sparql/Arithmetic$Operator", "isAdditive", "()Z"⟩ : MethodName) (head1 (Jvm.Cond.code (⟨"com/example/muset/muset/sparql/Arithmetic$Operator", "isAdditive", "()Z"⟩ : MethodName) prog_80_method_5_code 1 (some .boolean) :: ws) ({ frames := 0, cells := 0, slots := 0, locals := 0 } : Room)) (fun a U => a = #[(.ref r0)] ∧ Z.Warmed39 U.vm ∧ U.heap = h0) (fun _ _ _ _ _ => True) (fun _ U o U' => ∃ v L, o = .returned v ∧ Q4 Z r0 u1 u2 h0 n0 v U'.heap L ∧ FrameEnd U o U' L ({ frames := 0, cells := 0, slots := 0, locals := 0 } : Room).cells ({ frames := 0, cells := 0, slots := 0, locals := 0 } : Room).slots) := by
  refine MetFree.of_bodySF (plainFor_of_name pn0) hisR ?_
  intro p e s m args below meth c s₁ Bd hml0 hP hK
  obtain ⟨rfl, hZ, hh⟩ := hP
  have hx := Bd.exec
  have hby := Bd.bytes
  have hml : c.maxLocals = 1 := hml0
  have hown : s.vm.findClass "com/example/muset/muset/sparql/Arithmetic$Operator" = some m.cls := findClass_of_methodNamed Bd.named
  have hnm := (name_of_methodNamed Bd.named Bd.method).1
  have X0 : Stand p l e ({ frames := 0, cells := 0, slots := 0, locals := 0 } : Room) s m #[(.ref r0)] below meth c s₁ [] 0 0 := Stand.of_body Bd
  have e0 : s₁.heap = h0 := by rw [← hh, Bd.state]; rfl
  have N0 := Fr.nil n0
  have K0 : Keep h0 h0 [] := Keep.refl h0 _
  show own_Go p e below s (Q4 Z r0 u1 u2 h0 n0) ({ frames := 0, cells := 0, slots := 0, locals := 0 } : Room).cells ({ frames := 0, cells := 0, slots := 0, locals := 0 } : Room).slots (s₁.setTop (entryFrame m #[(.ref r0)] 1))
  refine own_go (fun t k => castTop (ef_4 m r0) k) ?_
  obtain ⟨T101, X101, e101, st101⟩ := getS2 X0 hx hZ hown (host := "") (Or.inl (hw _ (List.mem_of_getElem? (i := 37) rfl))) Via.refl e0 S_ADD (g := (mkF m 1 #[.val (.ref r0)] [(.ref r0)])) rfl (hb hby d4_1)
  obtain ⟨v3, hv3⟩ : ∃ z : Int32, z = (if r0 = u2 then (1 : Int32) else (0 : Int32)) := ⟨_, rfl⟩
  obtain ⟨v4, hv4⟩ : ∃ z : Int32, z = (if r0 = u1 then (1 : Int32) else v3) := ⟨_, rfl⟩
  obtain ⟨T108, lc108, X108, N108, e108, st108⟩ := own_mrg (n0 := n0) (h := h0) (g := (mkF m 4 #[.val (.ref r0)] [(.ref u1), (.ref r0)])) (g' := (mkF m 19 #[.val (.ref r0)] [(.int v4)])) X101 (by
    by_cases hc4_1 : r0 = u1
    · have hgo102 : ∀ t, Steps p.tables e below (T101.setTop (mkF m 19 #[.val (.ref r0)] [(.int (1 : Int32))])) t → Steps p.tables e below (T101.setTop (mkF m 4 #[.val (.ref r0)] [(.ref u1), (.ref r0)])) t := by
        intro t kt
        show Steps p.tables e below (T101.setTop (mkF m 4 #[.val (.ref r0)] [(.ref u1), (.ref r0)])) _
        refine Jvm.RoadKit.acmp (g := (mkF m 4 #[.val (.ref r0)] [(.ref u1), (.ref r0)])) X101 hx rfl rfl rfl (pc0 := 4) (pc' := 14) (same := true) rfl (hb hby d4_4) rfl (decide_eq_true (congrArg Value.ref hc4_1)) (by decide) (by decide) ?_
        show Steps p.tables e below (T101.setTop (mkF m 14 #[.val (.ref r0)] [])) _
        refine XS.iconst X101.here hx rfl (hb hby d4_14) ?_
        show Steps p.tables e below (T101.setTop (mkF m 15 #[.val (.ref r0)] [(.int (1 : Int32))])) _
        refine XS.goto X101.here hx rfl (pc0 := 15) (pc' := 19) rfl (hb hby d4_15) (by decide) (by decide) ?_
        exact kt
      refine own_arm hgo102 ?_
      exact own_armEnd X101 N0 e101 (by rw [hv4.trans (if_pos hc4_1)])
    · obtain ⟨T103, X103, e103, st103⟩ := getS2 X101 hx hZ hown (host := "") (Or.inl (hw _ (List.mem_of_getElem? (i := 41) rfl))) Via.refl e101 S_SUBTRACT (g := (mkF m 8 #[.val (.ref r0)] [(.ref r0)])) rfl (hb hby d4_8)
      obtain ⟨T106, lc106, X106, N106, e106, st106⟩ := own_mrg (n0 := n0) (h := h0) (g := (mkF m 11 #[.val (.ref r0)] [(.ref u2), (.ref r0)])) (g' := (mkF m 19 #[.val (.ref r0)] [(.int v3)])) X103 (by
        by_cases hc11_2 : r0 = u2
        · have hgo104 : ∀ t, Steps p.tables e below (T103.setTop (mkF m 19 #[.val (.ref r0)] [(.int (1 : Int32))])) t → Steps p.tables e below (T103.setTop (mkF m 11 #[.val (.ref r0)] [(.ref u2), (.ref r0)])) t := by
            intro t kt
            show Steps p.tables e below (T103.setTop (mkF m 11 #[.val (.ref r0)] [(.ref u2), (.ref r0)])) _
            refine Jvm.RoadKit.acmp (g := (mkF m 11 #[.val (.ref r0)] [(.ref u2), (.ref r0)])) X103 hx rfl rfl rfl (pc0 := 11) (pc' := 14) (same := true) rfl (hb hby d4_11) rfl (decide_eq_true (congrArg Value.ref hc11_2)) (by decide) (by decide) ?_
            show Steps p.tables e below (T103.setTop (mkF m 14 #[.val (.ref r0)] [])) _
            refine XS.iconst X103.here hx rfl (hb hby d4_14) ?_
            show Steps p.tables e below (T103.setTop (mkF m 15 #[.val (.ref r0)] [(.int (1 : Int32))])) _
            refine XS.goto X103.here hx rfl (pc0 := 15) (pc' := 19) rfl (hb hby d4_15) (by decide) (by decide) ?_
            exact kt
          refine own_arm hgo104 ?_
          exact own_armEnd X103 N0 e103 (by rw [hv3.trans (if_pos hc11_2)])
        · have hgo105 : ∀ t, Steps p.tables e below (T103.setTop (mkF m 19 #[.val (.ref r0)] [(.int (0 : Int32))])) t → Steps p.tables e below (T103.setTop (mkF m 11 #[.val (.ref r0)] [(.ref u2), (.ref r0)])) t := by
            intro t kt
            show Steps p.tables e below (T103.setTop (mkF m 11 #[.val (.ref r0)] [(.ref u2), (.ref r0)])) _
            refine Jvm.RoadKit.acmp (g := (mkF m 11 #[.val (.ref r0)] [(.ref u2), (.ref r0)])) X103 hx rfl rfl rfl (pc0 := 11) (pc' := 18) (same := false) rfl (hb hby d4_11) rfl (decide_eq_false fun q => hc11_2 (Value.ref.inj q)) (by decide) (by decide) ?_
            show Steps p.tables e below (T103.setTop (mkF m 18 #[.val (.ref r0)] [])) _
            refine XS.iconst X103.here hx rfl (hb hby d4_18) ?_
            exact kt
          refine own_arm hgo105 ?_
          exact own_armEnd X103 N0 e103 (by rw [hv3.trans (if_neg hc11_2)]))
      have hgo107 : ∀ t, Steps p.tables e below (T106.setTop (mkF m 19 #[.val (.ref r0)] [(.int v3)])) t → Steps p.tables e below (T101.setTop (mkF m 4 #[.val (.ref r0)] [(.ref u1), (.ref r0)])) t := by
        intro t kt
        show Steps p.tables e below (T101.setTop (mkF m 4 #[.val (.ref r0)] [(.ref u1), (.ref r0)])) _
        refine Jvm.RoadKit.acmp (g := (mkF m 4 #[.val (.ref r0)] [(.ref u1), (.ref r0)])) X101 hx rfl rfl rfl (pc0 := 4) (pc' := 7) (same := false) rfl (hb hby d4_4) rfl (decide_eq_false fun q => hc4_1 (Value.ref.inj q)) (by decide) (by decide) ?_
        show Steps p.tables e below (T101.setTop (mkF m 7 #[.val (.ref r0)] [])) _
        refine XS.aloadN X101.here hx rfl (hb hby d4_7) rfl rfl ?_
        show Steps p.tables e below (T101.setTop (mkF m 8 #[.val (.ref r0)] [(.ref r0)])) _
        refine st103 _ ?_
        show Steps p.tables e below (T103.setTop (mkF m 11 #[.val (.ref r0)] [(.ref u2), (.ref r0)])) _
        refine st106 _ ?_
        exact kt
      refine own_arm hgo107 ?_
      exact own_armEnd X106 N106 e106 (by rw [hv4.trans (if_neg hc4_1)]))
  have hgo109 : ∀ t, Steps p.tables e below (T108.setTop (mkF m 19 #[.val (.ref r0)] [(.int v4)])) t → Steps p.tables e below (s₁.setTop (mkF m 0 #[.val (.ref r0)] [])) t := by
    intro t kt
    show Steps p.tables e below (s₁.setTop (mkF m 0 #[.val (.ref r0)] [])) _
    refine XS.aloadN X0.here hx rfl (hb hby d4_0) rfl rfl ?_
    show Steps p.tables e below (s₁.setTop (mkF m 1 #[.val (.ref r0)] [(.ref r0)])) _
    refine st101 _ ?_
    show Steps p.tables e below (T101.setTop (mkF m 4 #[.val (.ref r0)] [(.ref u1), (.ref r0)])) _
    refine st108 _ ?_
    exact kt
  refine own_go hgo109 ?_
  exact own_retZ X108 hx Bd.returns Bd.notSynchronized (hb hby d4_19) (by decide) (by decide) (by rw [hv4]; exact (own_ite01 (Or.inr rfl) (by rw [hv3]; exact (own_ite01 (Or.inr rfl) (Or.inl rfl))))) (by rw [e108]; exact ⟨(by subst hv4 hv3; rw [own_r4]), N108, rfl⟩)
theorem own_ti {x : Int32} (h : x.toBitVec.toNat < 2147483648) : x.toInt = (x.toBitVec.toNat : Int) := by
  show x.toBitVec.toInt = _
  rw [BitVec.toInt_eq_toNat_cond, if_pos (by omega)]
theorem own_tn {x : Int32} (h : 0 ≤ x.toInt) : x.toInt = (x.toBitVec.toNat : Int) ∧ x.toBitVec.toNat < 2147483648 := by
  have e : x.toInt = x.toBitVec.toInt := rfl
  have c := BitVec.toInt_eq_toNat_cond x.toBitVec
  have l := x.toBitVec.isLt
  rw [e] at h ⊢
  rw [c] at h ⊢
  split at h
  · rename_i q
    rw [if_pos q]; omega
  · omega
theorem own_andn (x y : Int32) : (x &&& y).toBitVec.toNat = x.toBitVec.toNat &&& y.toBitVec.toNat := by rw [Int32.toBitVec_and, BitVec.toNat_and]
theorem own_orn (x y : Int32) : (x ||| y).toBitVec.toNat = x.toBitVec.toNat ||| y.toBitVec.toNat := by rw [Int32.toBitVec_or, BitVec.toNat_or]
theorem own_shln {x k : Int32} {n : Nat} (hk : (k.toBitVec.smod 32).toNat = n) (h : x.toBitVec.toNat * 2 ^ n < 2 ^ 32) : (x <<< k).toBitVec.toNat = x.toBitVec.toNat * 2 ^ n := by
  rw [Int32.toBitVec_shiftLeft, BitVec.shiftLeft_eq', BitVec.toNat_shiftLeft, hk, Nat.shiftLeft_eq, Nat.mod_eq_of_lt h]
theorem own_mask {x m : Int32} {k : Nat} (hm : m.toBitVec.toNat = 2 ^ k - 1) : (x &&& m).toBitVec.toNat = x.toBitVec.toNat % 2 ^ k := by
  rw [own_andn, hm, Nat.and_two_pow_sub_one_eq_mod]
theorem own_oradd {a b k : Nat} (hb : b < 2 ^ k) : (a * 2 ^ k) ||| b = a * 2 ^ k + b := by
  rw [Nat.mul_comm, ← Nat.two_pow_add_eq_or_of_lt hb]
theorem own_is3 {p v : Int32} (h : v = (p &&& (3 : Int32))) (h0 : ¬ (v = 0)) (h1 : ¬ (v = 1)) (h2 : ¬ (v = 2)) : v = 3 := by
  have e := own_mask (x := p) (m := 3) (k := 2) rfl
  rw [← h] at e
  have t := own_ti (x := v) (by omega)
  simp only [← Int32.toInt_inj, Int32.reduceToInt] at *
  omega
theorem pd4 : parseMethodDescriptor "()Ljava/lang/String;" = some ⟨[], some (.object "java/lang/String")⟩ := by decide +kernel
theorem pd5 : parseMethodDescriptor "(Ljava/lang/Object;)Z" = some ⟨[(.object "java/lang/Object")], some .boolean⟩ := by decide +kernel
theorem pd6 : parseMethodDescriptor "()Z" = some ⟨[], some .boolean⟩ := by decide +kernel
theorem ef_0 (m : MethodId) (p0 : Int32) : entryFrame m #[(.int p0)] maxLocals = mkF m 0 #[.val (.int p0), .unset, .unset, .unset, .unset, .unset, .unset] [] := by (first | (simp [entryFrame, mkF, argsToLocals, Value.category, maxLocals]; done) | rfl)
set_option maxRecDepth 65536 in
theorem own_leaf0 {p0 ucs v1 v5 v7 : Int32} {u0 u1 u2 u3 ys0 ys1 ys2 ys3 zs0 zs1 zs2 zs3 : Addr} (hv1 : v1 = (p0 &&& (3 : Int32))) (hv5 : v5 = (own_r4 u0 u0 u1)) (hv7 : v7 = (if v5 = (1 : Int32) then (1 : Int32) else (0 : Int32))) (hc5_2 : v1 = (0 : Int32)) (hne01 : ¬ (u0 = u1)) (hne02 : ¬ (u0 = u2)) (hne03 : ¬ (u0 = u3)) (hne10 : ¬ (u1 = u0)) (hne12 : ¬ (u1 = u2)) (hne13 : ¬ (u1 = u3)) (hne20 : ¬ (u2 = u0)) (hne21 : ¬ (u2 = u1)) (hne23 : ¬ (u2 = u3)) (hne30 : ¬ (u3 = u0)) (hne31 : ¬ (u3 = u1)) (hne32 : ¬ (u3 = u2)) : v7 = 1 := by
  simp only [hv7, hv5] at *
  simp [own_r4, hne01, hne02, hne03, hne10, hne12, hne13, hne20, hne21, hne23, hne30, hne31, hne32] at *
set_option maxRecDepth 65536 in
theorem own_leaf1 {p0 ucs v1 v10 v12 : Int32} {u0 u1 u2 u3 ys0 ys1 ys2 ys3 zs0 zs1 zs2 zs3 : Addr} (hv1 : v1 = (p0 &&& (3 : Int32))) (hv10 : v10 = (own_r4 u1 u0 u1)) (hv12 : v12 = (if v10 = (1 : Int32) then (1 : Int32) else (0 : Int32))) (hc5_2 : ¬ (v1 = (0 : Int32))) (hc17_8 : v1 = (1 : Int32)) (hne01 : ¬ (u0 = u1)) (hne02 : ¬ (u0 = u2)) (hne03 : ¬ (u0 = u3)) (hne10 : ¬ (u1 = u0)) (hne12 : ¬ (u1 = u2)) (hne13 : ¬ (u1 = u3)) (hne20 : ¬ (u2 = u0)) (hne21 : ¬ (u2 = u1)) (hne23 : ¬ (u2 = u3)) (hne30 : ¬ (u3 = u0)) (hne31 : ¬ (u3 = u1)) (hne32 : ¬ (u3 = u2)) : v12 = 1 := by
  simp only [hv12, hv10] at *
  simp [own_r4, hne01, hne02, hne03, hne10, hne12, hne13, hne20, hne21, hne23, hne30, hne31, hne32] at *
set_option maxRecDepth 65536 in
theorem own_leaf2 {p0 ucs v1 v14 v16 : Int32} {u0 u1 u2 u3 ys0 ys1 ys2 ys3 zs0 zs1 zs2 zs3 : Addr} (hv1 : v1 = (p0 &&& (3 : Int32))) (hv14 : v14 = (own_r4 u2 u0 u1)) (hv16 : v16 = (if v14 = (0 : Int32) then (1 : Int32) else (0 : Int32))) (hc5_2 : ¬ (v1 = (0 : Int32))) (hc17_8 : ¬ (v1 = (1 : Int32))) (hc29_13 : v1 = (2 : Int32)) (hne01 : ¬ (u0 = u1)) (hne02 : ¬ (u0 = u2)) (hne03 : ¬ (u0 = u3)) (hne10 : ¬ (u1 = u0)) (hne12 : ¬ (u1 = u2)) (hne13 : ¬ (u1 = u3)) (hne20 : ¬ (u2 = u0)) (hne21 : ¬ (u2 = u1)) (hne23 : ¬ (u2 = u3)) (hne30 : ¬ (u3 = u0)) (hne31 : ¬ (u3 = u1)) (hne32 : ¬ (u3 = u2)) : v16 = 1 := by
  simp only [hv16, hv14] at *
  simp [own_r4, hne01, hne02, hne03, hne10, hne12, hne13, hne20, hne21, hne23, hne30, hne31, hne32] at *
set_option maxRecDepth 65536 in
theorem own_leaf3 {p0 ucs v1 v18 v19 v22 v23 : Int32} {u0 u1 u2 u3 ys0 ys1 ys2 ys3 zs0 zs1 zs2 zs3 : Addr} (hv1 : v1 = (p0 &&& (3 : Int32))) (hv18 : v18 = (if v1 < (2 : Int32) then (1 : Int32) else (0 : Int32))) (hv19 : v19 = (own_r4 u3 u0 u1)) (hv22 : v22 = (if v19 = (0 : Int32) then (1 : Int32) else (0 : Int32))) (hv23 : v23 = (if v19 = v18 then v22 else (0 : Int32))) (hc5_2 : ¬ (v1 = (0 : Int32))) (hc17_8 : ¬ (v1 = (1 : Int32))) (hc29_13 : ¬ (v1 = (2 : Int32))) (hne01 : ¬ (u0 = u1)) (hne02 : ¬ (u0 = u2)) (hne03 : ¬ (u0 = u3)) (hne10 : ¬ (u1 = u0)) (hne12 : ¬ (u1 = u2)) (hne13 : ¬ (u1 = u3)) (hne20 : ¬ (u2 = u0)) (hne21 : ¬ (u2 = u1)) (hne23 : ¬ (u2 = u3)) (hne30 : ¬ (u3 = u0)) (hne31 : ¬ (u3 = u1)) (hne32 : ¬ (u3 = u2)) : v23 = 1 := by
  have e3 := own_is3 hv1 hc5_2 hc17_8 hc29_13
  clear hv1
  subst e3
  simp only [hv23, hv18, hv22, hv19]
  simp [own_r4, hne01, hne02, hne03, hne10, hne12, hne13, hne20, hne21, hne23, hne30, hne31, hne32]
theorem pn7 : plainName "com/example/muset/muset/sparql/OperatorIsAdditivePinLaw" = true := by first | (simp [plainName, overriddenIn]; done) | decide +kernel
def Q0 (Z : State) (p0 : Int32) (u0 : Addr) (u1 : Addr) (u2 : Addr) (u3 : Addr) (ys0 : Addr) (ys1 : Addr) (ys2 : Addr) (ys3 : Addr) (zs0 : Addr) (zs1 : Addr) (zs2 : Addr) (zs3 : Addr) (ucs : Int32) (h0 : Heap) (n0 : Nat) (v : Option Value) (h : Heap) (L : List Loc) : Prop := v = some (.int 1) ∧ Fr n0 L
set_option maxRecDepth 65536 in
set_option maxHeartbeats 40000000 in
theorem rm0 (l : Launch) (Z : State) (a0 : Array Value) (hw : ∀ d ∈ tables_1, d.before a0 Z = true) (ws : List Jvm.Cond) (p0 : Int32) (u0 : Addr) (u1 : Addr) (u2 : Addr) (u3 : Addr) (ys0 : Addr) (ys1 : Addr) (ys2 : Addr) (ys3 : Addr) (zs0 : Addr) (zs1 : Addr) (zs2 : Addr) (zs3 : Addr) (ucs : Int32) (h0 : Heap) (n0 : Nat) (Z0 : n0 ≤ h0.size) (S_u0 : Sta Z h0 "com/example/muset/muset/sparql/Arithmetic$Operator" "ADD" "Lcom/example/muset/muset/sparql/Arithmetic$Operator;" (.ref u0)) (E_u0 : Exa Z h0 u0 "com/example/muset/muset/sparql/Arithmetic$Operator") (F_ou0 : Fld Z h0 u0 "java/lang/Enum" "ordinal" "I" (.int (0 : Int32))) (F_su0 : Fld Z h0 u0 "com/example/muset/muset/sparql/Arithmetic$Operator" "symbol" "Ljava/lang/String;" (.ref ys0)) (E_ys0 : Exa Z h0 ys0 "java/lang/String") (F_cys0 : Fld Z h0 ys0 "java/lang/String" "coder" "B" (.int (0 : Int32))) (F_vys0 : Fld Z h0 ys0 "java/lang/String" "value" "[B" (.ref zs0)) (A_zs0 : own_AI Z h0 zs0 .byte 1 (fun _ => (43 : Int32))) (S_u1 : Sta Z h0 "com/example/muset/muset/sparql/Arithmetic$Operator" "SUBTRACT" "Lcom/example/muset/muset/sparql/Arithmetic$Operator;" (.ref u1)) (E_u1 : Exa Z h0 u1 "com/example/muset/muset/sparql/Arithmetic$Operator") (F_ou1 : Fld Z h0 u1 "java/lang/Enum" "ordinal" "I" (.int (1 : Int32))) (F_su1 : Fld Z h0 u1 "com/example/muset/muset/sparql/Arithmetic$Operator" "symbol" "Ljava/lang/String;" (.ref ys1)) (E_ys1 : Exa Z h0 ys1 "java/lang/String") (F_cys1 : Fld Z h0 ys1 "java/lang/String" "coder" "B" (.int (0 : Int32))) (F_vys1 : Fld Z h0 ys1 "java/lang/String" "value" "[B" (.ref zs1)) (A_zs1 : own_AI Z h0 zs1 .byte 1 (fun _ => (45 : Int32))) (S_u2 : Sta Z h0 "com/example/muset/muset/sparql/Arithmetic$Operator" "MULTIPLY" "Lcom/example/muset/muset/sparql/Arithmetic$Operator;" (.ref u2)) (E_u2 : Exa Z h0 u2 "com/example/muset/muset/sparql/Arithmetic$Operator") (F_ou2 : Fld Z h0 u2 "java/lang/Enum" "ordinal" "I" (.int (2 : Int32))) (F_su2 : Fld Z h0 u2 "com/example/muset/muset/sparql/Arithmetic$Operator" "symbol" "Ljava/lang/String;" (.ref ys2)) (E_ys2 : Exa Z h0 ys2 "java/lang/String") (F_cys2 : Fld Z h0 ys2 "java/lang/String" "coder" "B" (.int (0 : Int32))) (F_vys2 : Fld Z h0 ys2 "java/lang/String" "value" "[B" (.ref zs2)) (A_zs2 : own_AI Z h0 zs2 .byte 1 (fun _ => (42 : Int32))) (S_u3 : Sta Z h0 "com/example/muset/muset/sparql/Arithmetic$Operator" "DIVIDE" "Lcom/example/muset/muset/sparql/Arithmetic$Operator;" (.ref u3)) (E_u3 : Exa Z h0 u3 "com/example/muset/muset/sparql/Arithmetic$Operator") (F_ou3 : Fld Z h0 u3 "java/lang/Enum" "ordinal" "I" (.int (3 : Int32))) (F_su3 : Fld Z h0 u3 "com/example/muset/muset/sparql/Arithmetic$Operator" "symbol" "Ljava/lang/String;" (.ref ys3)) (E_ys3 : Exa Z h0 ys3 "java/lang/String") (F_cys3 : Fld Z h0 ys3 "java/lang/String" "coder" "B" (.int (0 : Int32))) (F_vys3 : Fld Z h0 ys3 "java/lang/String" "value" "[B" (.ref zs3)) (A_zs3 : own_AI Z h0 zs3 .byte 1 (fun _ => (47 : Int32))) (S_cs : Sta Z h0 "java/lang/String" "COMPACT_STRINGS" "Z" (.int ucs)) (hcs : ¬ (ucs = (0 : Int32))) (hn0 : n0 = h0.size) (hkp : Z.heap = h0) (hcw : Jvm.Lit.compactW.before a0 Z = true) (hl26 : Jvm.Lit.constHeld Z "com/example/muset/muset/sparql/OperatorIsAdditivePinLaw" 26) (hl34 : Jvm.Lit.constHeld Z "com/example/muset/muset/sparql/OperatorIsAdditivePinLaw" 34) :
    MetFree l x (head1 (Jvm.Cond.code x code maxLocals ret :: ws) room_1) (fun a U => a = #[(.int p0)] ∧ Z.Warmed39 U.vm ∧ U.heap = h0 ∧ IB Z U.vm []) (fun _ _ _ _ _ => True) (fun _ U o U' => ∃ v L, o = .returned v ∧ Q0 Z p0 u0 u1 u2 u3 ys0 ys1 ys2 ys3 zs0 zs1 zs2 zs3 ucs h0 n0 v U'.heap L ∧ ReturnedEndW U o U' L room_1.cells room_1.slots) := by
  refine MetFree.of_bodySF (plainFor_of_name pn7) hisR ?_
  intro p e s m args below meth c s₁ Bd hml0 hP hK
  obtain ⟨rfl, hZ, hh, I0⟩ := hP
  have hx := Bd.exec
  have hby := Bd.bytes
  have hml : c.maxLocals = 7 := hml0
  have hown : s.vm.findClass "com/example/muset/muset/sparql/OperatorIsAdditivePinLaw" = some m.cls := findClass_of_methodNamed Bd.named
  have hnm := (name_of_methodNamed Bd.named Bd.method).1
  have X0 : Stand p l e room_1 s m #[(.int p0)] below meth c s₁ [] 0 0 := Stand.of_body Bd
  have e0 : s₁.heap = h0 := by rw [← hh, Bd.state]; rfl
  have N0 := Fr.nil n0
  have K0 : Keep h0 h0 [] := Keep.refl h0 _
  show own_GoW p e below s (Q0 Z p0 u0 u1 u2 u3 ys0 ys1 ys2 ys3 zs0 zs1 zs2 zs3 ucs h0 n0) room_1.cells room_1.slots (s₁.setTop (entryFrame m #[(.int p0)] maxLocals))
  refine own_goW (fun t k => castTop (ef_0 m p0) k) ?_
  have hne01 : ¬ (u0 = u1) := Fld.ne F_ou0 F_ou1 (fun q => absurd (Value.int.inj q) (by decide))
  have hne02 : ¬ (u0 = u2) := Fld.ne F_ou0 F_ou2 (fun q => absurd (Value.int.inj q) (by decide))
  have hne03 : ¬ (u0 = u3) := Fld.ne F_ou0 F_ou3 (fun q => absurd (Value.int.inj q) (by decide))
  have hne10 : ¬ (u1 = u0) := Fld.ne F_ou1 F_ou0 (fun q => absurd (Value.int.inj q) (by decide))
  have hne12 : ¬ (u1 = u2) := Fld.ne F_ou1 F_ou2 (fun q => absurd (Value.int.inj q) (by decide))
  have hne13 : ¬ (u1 = u3) := Fld.ne F_ou1 F_ou3 (fun q => absurd (Value.int.inj q) (by decide))
  have hne20 : ¬ (u2 = u0) := Fld.ne F_ou2 F_ou0 (fun q => absurd (Value.int.inj q) (by decide))
  have hne21 : ¬ (u2 = u1) := Fld.ne F_ou2 F_ou1 (fun q => absurd (Value.int.inj q) (by decide))
  have hne23 : ¬ (u2 = u3) := Fld.ne F_ou2 F_ou3 (fun q => absurd (Value.int.inj q) (by decide))
  have hne30 : ¬ (u3 = u0) := Fld.ne F_ou3 F_ou0 (fun q => absurd (Value.int.inj q) (by decide))
  have hne31 : ¬ (u3 = u1) := Fld.ne F_ou3 F_ou1 (fun q => absurd (Value.int.inj q) (by decide))
  have hne32 : ¬ (u3 = u2) := Fld.ne F_ou3 F_ou2 (fun q => absurd (Value.int.inj q) (by decide))
  obtain ⟨v1, hv1⟩ : ∃ z : Int32, z = (p0 &&& (3 : Int32)) := ⟨_, rfl⟩
  have hgo109 : ∀ t, Steps p.tables e below (s₁.setTop (mkF m 5 #[.val (.int p0), .val (.int v1), .unset, .unset, .unset, .unset, .unset] [(.int v1)])) t → Steps p.tables e below (s₁.setTop (mkF m 0 #[.val (.int p0), .unset, .unset, .unset, .unset, .unset, .unset] [])) t := by
    intro t kt
    show Steps p.tables e below (s₁.setTop (mkF m 0 #[.val (.int p0), .unset, .unset, .unset, .unset, .unset, .unset] [])) _
    refine XS.iloadN X0.here hx rfl (hb hby at_0) rfl ?_
    show Steps p.tables e below (s₁.setTop (mkF m 1 #[.val (.int p0), .unset, .unset, .unset, .unset, .unset, .unset] [(.int p0)])) _
    refine XS.iconst X0.here hx rfl (hb hby at_1) ?_
    show Steps p.tables e below (s₁.setTop (mkF m 2 #[.val (.int p0), .unset, .unset, .unset, .unset, .unset, .unset] [(.int (3 : Int32)), (.int p0)])) _
    refine XS.iand X0.here hx rfl (hb hby at_2) rfl ?_
    show Steps p.tables e below (s₁.setTop (mkF m 3 #[.val (.int p0), .unset, .unset, .unset, .unset, .unset, .unset] [(.int (p0 &&& (3 : Int32)))])) _
    rw [← hv1]
    show Steps p.tables e below (s₁.setTop (mkF m 3 #[.val (.int p0), .unset, .unset, .unset, .unset, .unset, .unset] [(.int v1)])) _
    refine XS.istoreN X0.here hx rfl (hb hby at_3) rfl (l' := #[.val (.int p0), .val (.int v1), .unset, .unset, .unset, .unset, .unset]) rfl ?_
    show Steps p.tables e below (s₁.setTop (mkF m 4 #[.val (.int p0), .val (.int v1), .unset, .unset, .unset, .unset, .unset] [])) _
    refine XS.iloadN X0.here hx rfl (hb hby at_4) rfl ?_
    exact kt
  refine own_goW hgo109 ?_
  by_cases hc5_2 : v1 = (0 : Int32)
  · obtain ⟨T110, X110, e110, st110⟩ := getS2 X0 hx hZ hown (host := "") (Or.inl (hw _ (List.mem_of_getElem? (i := 0) rfl))) Via.refl e0 S_u0 (g := (mkF m 8 #[.val (.int p0), .val (.int v1), .unset, .unset, .unset, .unset, .unset] [])) rfl (hb hby at_8)
    obtain ⟨cq111, kq111, q111a, q111b, q111c⟩ := isOf hZ e110 E_u0
    obtain ⟨_, _, ⟨T111, L111, k111, n111⟩, -, X111, ⟨Lc111, hQ111, l111, y111, z111⟩, st111⟩ := X110.virtualBack hx (y := (⟨"com/example/muset/muset/sparql/Arithmetic$Operator", "symbol", "()Ljava/lang/String;"⟩ : MethodName)) (z := (⟨"com/example/muset/muset/sparql/Arithmetic$Operator", "symbol", "()Ljava/lang/String;"⟩ : MethodName)) hown (mvT hZ (hw _ (List.mem_of_getElem? (i := 3) rfl))) (mvT hZ (hw _ (List.mem_of_getElem? (i := 4) rfl))) (notFace_of_selects (args := #[]) (mvT hZ (hw _ (List.mem_of_getElem? (i := 6) rfl)))) (mvT hZ (hw _ (List.mem_of_getElem? (i := 6) rfl))) (mvT hZ (hw _ (List.mem_of_getElem? (i := 5) rfl))) (by decide) (backOf (W := 0) (rm1 l Z a0 hw [] u0 ys0 h0 n0 Z0 F_su0) hZ (hw _ (List.mem_of_getElem? (i := 7) rfl)) (hw _ (List.mem_of_getElem? (i := 1) rfl)) (by decide) (by decide)) q111a q111c (g := (mkF m 55 #[.val (.int p0), .val (.int v1), .val (.ref u0), .val (.int (1 : Int32)), .unset, .unset, .unset] [(.ref u0)])) rfl (by rw [hml]; rfl) (Steps.refl _) (argsL := []) (rest := []) (lenOf pd4 rfl) rfl (by show 2 * 0 + _ ≤ _; exact Nat.le_of_eq rfl) (hb hby at_55) (fun _ _ => ⟨rfl, e110, (by decide : 0 + 0 ≤ _), (by decide : 0 + 0 ≤ _)⟩)
    dsimp only [Pt.U, Pt.locs, Pt.cells, Pt.slots] at X111 l111 y111 z111 st111 hQ111
    subst l111 y111 z111
    obtain ⟨rfl, N111q, e111⟩ := hQ111
    have N111 := Fr.app N0 N111q
    obtain ⟨b112, T112, h112, k112, y112, kk112, X112, e112, E112, hS112, hk112, hZ, hown, EX112, FC112, FV112, AV112, -, -, I112, st112⟩ := ldcSV (s := s) (vm0 := s.vm) X111 hx hZ hown (hw _ (List.mem_of_getElem? (i := 10) rfl)) (fun d hd => hw d ((by decide +kernel : ∀ d ∈ Bundle.stringAtoms, d ∈ tables_1) d hd)) e111 (State.WarmedH.since (State.WarmedH.refl s) 0) (Nat.zero_le _) (by rw [hh, ← hn0]; exact N111) (fun b cl q => by rw [hh, ← hkp]; exact q) I0 (by decide) hl26 hcw (vs := [.int (43 : Int32)]) (z := 1) (by decide +kernel) (by decide) rfl (g := (mkF m 62 #[.val (.int p0), .val (.int v1), .val (.ref u0), .val (.int (1 : Int32)), .val (.ref ys0), .unset, .unset] [(.ref ys0)])) rfl (hb hby at_62) (n := 4) (by decide) (by decide) (by decide) (by decide)
    have F113 := S_u0.ext E112
    have F114 := E_u0.ext E112
    have F115 := F_ou0.ext E112
    have F116 := F_su0.ext E112
    have F117 := E_ys0.ext E112
    have F118 := F_cys0.ext E112
    have F119 := F_vys0.ext E112
    have F120 := A_zs0.ext E112
    have F121 := S_u1.ext E112
    have F122 := E_u1.ext E112
    have F123 := F_ou1.ext E112
    have F124 := F_su1.ext E112
    have F125 := E_ys1.ext E112
    have F126 := F_cys1.ext E112
    have F127 := F_vys1.ext E112
    have F128 := A_zs1.ext E112
    have F129 := S_u2.ext E112
    have F130 := E_u2.ext E112
    have F131 := F_ou2.ext E112
    have F132 := F_su2.ext E112
    have F133 := E_ys2.ext E112
    have F134 := F_cys2.ext E112
    have F135 := F_vys2.ext E112
    have F136 := A_zs2.ext E112
    have F137 := S_u3.ext E112
    have F138 := E_u3.ext E112
    have F139 := F_ou3.ext E112
    have F140 := F_su3.ext E112
    have F141 := E_ys3.ext E112
    have F142 := F_cys3.ext E112
    have F143 := F_vys3.ext E112
    have F144 := A_zs3.ext E112
    have F145 := S_cs.ext E112
    have Z146 : n0 ≤ h112.size := Nat.le_trans Z0 E112.1
    have K147 : Keep h0 h112 [] := K0.ext E112
    have AA112 := own_ofArv AV112
    obtain ⟨cq148, kq148, q148a, q148b, q148c⟩ := isOf hZ e112 F117
    obtain ⟨_, _, ⟨T148, L148, k148, n148⟩, -, X148, ⟨Lc148, hQ148, l148, y148, z148⟩, st148⟩ := X112.virtualBack hx (y := (⟨"java/lang/String", "equals", "(Ljava/lang/Object;)Z"⟩ : MethodName)) (z := (⟨"java/lang/String", "equals", "(Ljava/lang/Object;)Z"⟩ : MethodName)) hown (mvT hZ (hw _ (List.mem_of_getElem? (i := 18) rfl))) (mvT hZ (hw _ (List.mem_of_getElem? (i := 19) rfl))) (notFace_of_selects (args := #[]) (mvT hZ (hw _ (List.mem_of_getElem? (i := 21) rfl)))) (mvT hZ (hw _ (List.mem_of_getElem? (i := 21) rfl))) (mvT hZ (hw _ (List.mem_of_getElem? (i := 20) rfl))) (by decide) (backOf (W := 0) (rm2T l Z a0 hw [] ys0 b112 ucs zs0 y112 (fun _ => (43 : Int32)) (fun _ => (43 : Int32)) h112 n0 Z146 F145 (by first | assumption | decide : ¬ (ucs = (0 : Int32))) F117 F118 F119 F120 EX112 FC112 FV112 AA112 (by first | assumption | decide : ((fun _ => (43 : Int32)) 0) = ((fun _ => (43 : Int32)) 0))) hZ (hw _ (List.mem_of_getElem? (i := 22) rfl)) (hw _ (List.mem_of_getElem? (i := 11) rfl)) (by decide) (by decide)) q148a q148c (g := (mkF m 64 #[.val (.int p0), .val (.int v1), .val (.ref u0), .val (.int (1 : Int32)), .val (.ref ys0), .unset, .unset] [(.ref b112), (.ref ys0)])) rfl (by rw [hml]; rfl) (Steps.refl _) (argsL := [(.ref b112)]) (rest := []) (lenOf pd5 rfl) rfl (by show 2 * 0 + _ ≤ _; exact Nat.le_of_eq rfl) (hb hby at_64) (fun _ _ => ⟨rfl, e112, (by decide : 2 + 0 ≤ _), (by decide : 8 + 0 ≤ _)⟩)
    dsimp only [Pt.U, Pt.locs, Pt.cells, Pt.slots] at X148 l148 y148 z148 st148 hQ148
    subst l148 y148 z148
    obtain ⟨rfl, N148q, e148⟩ := hQ148
    have N148 := Fr.app N111 N148q
    obtain ⟨cq149, kq149, q149a, q149b, q149c⟩ := isOf hZ e148 F114
    obtain ⟨_, _, ⟨T149, L149, k149, n149⟩, -, X149, ⟨Lc149, hQ149, l149, y149, z149⟩, st149⟩ := X148.virtualBack hx (y := (⟨"com/example/muset/muset/sparql/Arithmetic$Operator", "isAdditive", "()Z"⟩ : MethodName)) (z := (⟨"com/example/muset/muset/sparql/Arithmetic$Operator", "isAdditive", "()Z"⟩ : MethodName)) hown (mvT hZ (hw _ (List.mem_of_getElem? (i := 32) rfl))) (mvT hZ (hw _ (List.mem_of_getElem? (i := 33) rfl))) (notFace_of_selects (args := #[]) (mvT hZ (hw _ (List.mem_of_getElem? (i := 35) rfl)))) (mvT hZ (hw _ (List.mem_of_getElem? (i := 35) rfl))) (mvT hZ (hw _ (List.mem_of_getElem? (i := 34) rfl))) (by decide) (backOf (W := 0) (rm4 l Z a0 hw [] u0 u0 u1 h112 n0 Z146 F113 F121) hZ (hw _ (List.mem_of_getElem? (i := 36) rfl)) (hw _ (List.mem_of_getElem? (i := 1) rfl)) (by decide) (by decide)) q149a q149c (g := (mkF m 88 #[.val (.int p0), .val (.int v1), .val (.ref u0), .val (.int (1 : Int32)), .val (.ref ys0), .val (.int (1 : Int32)), .unset] [(.ref u0)])) rfl (by rw [hml]; rfl) (Steps.refl _) (argsL := []) (rest := []) (lenOf pd6 rfl) rfl (by show 2 * 0 + _ ≤ _; exact Nat.le_of_eq rfl) (hb hby at_88) (fun _ _ => ⟨rfl, e148, (by decide : 2 + 0 ≤ _), (by decide : 8 + 0 ≤ _)⟩)
    dsimp only [Pt.U, Pt.locs, Pt.cells, Pt.slots] at X149 l149 y149 z149 st149 hQ149
    subst l149 y149 z149
    obtain ⟨rfl, N149q, e149⟩ := hQ149
    have N149 := Fr.app N148 N149q
    obtain ⟨v5, hv5⟩ : ∃ z : Int32, z = (own_r4 u0 u0 u1) := ⟨_, rfl⟩
    obtain ⟨v7, hv7⟩ : ∃ z : Int32, z = (if v5 = (1 : Int32) then (1 : Int32) else (0 : Int32)) := ⟨_, rfl⟩
    obtain ⟨T152, lc152, X152, N152, e152, st152⟩ := own_mrg (n0 := n0) (h := h112) (g := (mkF m 96 #[.val (.int p0), .val (.int v1), .val (.ref u0), .val (.int (1 : Int32)), .val (.ref ys0), .val (.int (1 : Int32)), .val (.int v5)] [(.int (1 : Int32)), (.int v5)])) (g' := (mkF m 111 #[.val (.int p0), .val (.int v1), .val (.ref u0), .val (.int (1 : Int32)), .val (.ref ys0), .val (.int (1 : Int32)), .val (.int v5)] [(.int v7)])) X149 (by
      by_cases hc96_6 : v5 = (1 : Int32)
      · have hgo150 : ∀ t, Steps p.tables e below (T149.setTop (mkF m 111 #[.val (.int p0), .val (.int v1), .val (.ref u0), .val (.int (1 : Int32)), .val (.ref ys0), .val (.int (1 : Int32)), .val (.int v5)] [(.int (1 : Int32))])) t → Steps p.tables e below (T149.setTop (mkF m 96 #[.val (.int p0), .val (.int v1), .val (.ref u0), .val (.int (1 : Int32)), .val (.ref ys0), .val (.int (1 : Int32)), .val (.int v5)] [(.int (1 : Int32)), (.int v5)])) t := by
          intro t kt
          show Steps p.tables e below (T149.setTop (mkF m 96 #[.val (.int p0), .val (.int v1), .val (.ref u0), .val (.int (1 : Int32)), .val (.ref ys0), .val (.int (1 : Int32)), .val (.int v5)] [(.int (1 : Int32)), (.int v5)])) _
          refine XS.icmpNo X149.here hx rfl (hb hby at_96) rfl (teq hc96_6).2 ?_
          show Steps p.tables e below (T149.setTop (mkF m 99 #[.val (.int p0), .val (.int v1), .val (.ref u0), .val (.int (1 : Int32)), .val (.ref ys0), .val (.int (1 : Int32)), .val (.int v5)] [])) _
          refine XS.iload X149.here hx rfl (hb hby at_99) rfl ?_
          show Steps p.tables e below (T149.setTop (mkF m 101 #[.val (.int p0), .val (.int v1), .val (.ref u0), .val (.int (1 : Int32)), .val (.ref ys0), .val (.int (1 : Int32)), .val (.int v5)] [(.int v5)])) _
          refine XS.iload X149.here hx rfl (hb hby at_101) rfl ?_
          show Steps p.tables e below (T149.setTop (mkF m 103 #[.val (.int p0), .val (.int v1), .val (.ref u0), .val (.int (1 : Int32)), .val (.ref ys0), .val (.int (1 : Int32)), .val (.int v5)] [(.int (1 : Int32)), (.int v5)])) _
          refine XS.icmpNo X149.here hx rfl (hb hby at_103) rfl (teq hc96_6).2 ?_
          show Steps p.tables e below (T149.setTop (mkF m 106 #[.val (.int p0), .val (.int v1), .val (.ref u0), .val (.int (1 : Int32)), .val (.ref ys0), .val (.int (1 : Int32)), .val (.int v5)] [])) _
          refine XS.iconst X149.here hx rfl (hb hby at_106) ?_
          show Steps p.tables e below (T149.setTop (mkF m 107 #[.val (.int p0), .val (.int v1), .val (.ref u0), .val (.int (1 : Int32)), .val (.ref ys0), .val (.int (1 : Int32)), .val (.int v5)] [(.int (1 : Int32))])) _
          refine XS.goto X149.here hx rfl (pc0 := 107) (pc' := 111) rfl (hb hby at_107) (by decide) (by decide) ?_
          exact kt
        refine own_arm hgo150 ?_
        exact own_armEnd X149 N149 e149 (by rw [hv7.trans (if_pos hc96_6)])
      · have hgo151 : ∀ t, Steps p.tables e below (T149.setTop (mkF m 111 #[.val (.int p0), .val (.int v1), .val (.ref u0), .val (.int (1 : Int32)), .val (.ref ys0), .val (.int (1 : Int32)), .val (.int v5)] [(.int (0 : Int32))])) t → Steps p.tables e below (T149.setTop (mkF m 96 #[.val (.int p0), .val (.int v1), .val (.ref u0), .val (.int (1 : Int32)), .val (.ref ys0), .val (.int (1 : Int32)), .val (.int v5)] [(.int (1 : Int32)), (.int v5)])) t := by
          intro t kt
          show Steps p.tables e below (T149.setTop (mkF m 96 #[.val (.int p0), .val (.int v1), .val (.ref u0), .val (.int (1 : Int32)), .val (.ref ys0), .val (.int (1 : Int32)), .val (.int v5)] [(.int (1 : Int32)), (.int v5)])) _
          refine XS.icmpYes X149.here hx rfl (pc0 := 96) (pc' := 110) rfl (hb hby at_96) rfl (feq hc96_6).2 (by decide) (by decide) ?_
          show Steps p.tables e below (T149.setTop (mkF m 110 #[.val (.int p0), .val (.int v1), .val (.ref u0), .val (.int (1 : Int32)), .val (.ref ys0), .val (.int (1 : Int32)), .val (.int v5)] [])) _
          refine XS.iconst X149.here hx rfl (hb hby at_110) ?_
          exact kt
        refine own_arm hgo151 ?_
        exact own_armEnd X149 N149 e149 (by rw [hv7.trans (if_neg hc96_6)]))
    have hgo153 : ∀ t, Steps p.tables e below (T152.setTop (mkF m 111 #[.val (.int p0), .val (.int v1), .val (.ref u0), .val (.int (1 : Int32)), .val (.ref ys0), .val (.int (1 : Int32)), .val (.int v5)] [(.int v7)])) t → Steps p.tables e below (s₁.setTop (mkF m 5 #[.val (.int p0), .val (.int v1), .unset, .unset, .unset, .unset, .unset] [(.int v1)])) t := by
      intro t kt
      show Steps p.tables e below (s₁.setTop (mkF m 5 #[.val (.int p0), .val (.int v1), .unset, .unset, .unset, .unset, .unset] [(.int v1)])) _
      refine XS.ifNo X0.here hx rfl (hb hby at_5) rfl ((if0 _ _).trans (teq hc5_2).2) ?_
      show Steps p.tables e below (s₁.setTop (mkF m 8 #[.val (.int p0), .val (.int v1), .unset, .unset, .unset, .unset, .unset] [])) _
      refine st110 _ ?_
      show Steps p.tables e below (T110.setTop (mkF m 11 #[.val (.int p0), .val (.int v1), .unset, .unset, .unset, .unset, .unset] [(.ref u0)])) _
      refine XS.astoreN X110.here hx rfl (hb hby at_11) rfl rfl (l' := #[.val (.int p0), .val (.int v1), .val (.ref u0), .unset, .unset, .unset, .unset]) rfl ?_
      show Steps p.tables e below (T110.setTop (mkF m 12 #[.val (.int p0), .val (.int v1), .val (.ref u0), .unset, .unset, .unset, .unset] [])) _
      refine XS.goto X110.here hx rfl (pc0 := 12) (pc' := 43) rfl (hb hby at_12) (by decide) (by decide) ?_
      show Steps p.tables e below (T110.setTop (mkF m 43 #[.val (.int p0), .val (.int v1), .val (.ref u0), .unset, .unset, .unset, .unset] [])) _
      refine XS.iloadN X110.here hx rfl (hb hby at_43) rfl ?_
      show Steps p.tables e below (T110.setTop (mkF m 44 #[.val (.int p0), .val (.int v1), .val (.ref u0), .unset, .unset, .unset, .unset] [(.int v1)])) _
      refine XS.iconst X110.here hx rfl (hb hby at_44) ?_
      show Steps p.tables e below (T110.setTop (mkF m 45 #[.val (.int p0), .val (.int v1), .val (.ref u0), .unset, .unset, .unset, .unset] [(.int (2 : Int32)), (.int v1)])) _
      refine XS.icmpNo X110.here hx rfl (hb hby at_45) rfl (tlt (by have y0 := hc5_2; simp only [Int32.lt_iff_toInt_lt, ← Int32.toInt_inj, Int32.reduceToInt] at y0 ⊢; omega : v1 < (2 : Int32))).2.1 ?_
      show Steps p.tables e below (T110.setTop (mkF m 48 #[.val (.int p0), .val (.int v1), .val (.ref u0), .unset, .unset, .unset, .unset] [])) _
      refine XS.iconst X110.here hx rfl (hb hby at_48) ?_
      show Steps p.tables e below (T110.setTop (mkF m 49 #[.val (.int p0), .val (.int v1), .val (.ref u0), .unset, .unset, .unset, .unset] [(.int (1 : Int32))])) _
      refine XS.goto X110.here hx rfl (pc0 := 49) (pc' := 53) rfl (hb hby at_49) (by decide) (by decide) ?_
      show Steps p.tables e below (T110.setTop (mkF m 53 #[.val (.int p0), .val (.int v1), .val (.ref u0), .unset, .unset, .unset, .unset] [(.int (1 : Int32))])) _
      refine XS.istoreN X110.here hx rfl (hb hby at_53) rfl (l' := #[.val (.int p0), .val (.int v1), .val (.ref u0), .val (.int (1 : Int32)), .unset, .unset, .unset]) rfl ?_
      show Steps p.tables e below (T110.setTop (mkF m 54 #[.val (.int p0), .val (.int v1), .val (.ref u0), .val (.int (1 : Int32)), .unset, .unset, .unset] [])) _
      refine XS.aloadN X110.here hx rfl (hb hby at_54) rfl rfl ?_
      show Steps p.tables e below (T110.setTop (mkF m 55 #[.val (.int p0), .val (.int v1), .val (.ref u0), .val (.int (1 : Int32)), .unset, .unset, .unset] [(.ref u0)])) _
      refine st111.trans ?_
      show Steps p.tables e below (T111.setTop (mkF m 58 #[.val (.int p0), .val (.int v1), .val (.ref u0), .val (.int (1 : Int32)), .unset, .unset, .unset] [(.ref ys0)])) _
      refine XS.astore X111.here hx rfl (hb hby at_58) rfl rfl (l' := #[.val (.int p0), .val (.int v1), .val (.ref u0), .val (.int (1 : Int32)), .val (.ref ys0), .unset, .unset]) rfl ?_
      show Steps p.tables e below (T111.setTop (mkF m 60 #[.val (.int p0), .val (.int v1), .val (.ref u0), .val (.int (1 : Int32)), .val (.ref ys0), .unset, .unset] [])) _
      refine XS.aload X111.here hx rfl (hb hby at_60) rfl rfl ?_
      show Steps p.tables e below (T111.setTop (mkF m 62 #[.val (.int p0), .val (.int v1), .val (.ref u0), .val (.int (1 : Int32)), .val (.ref ys0), .unset, .unset] [(.ref ys0)])) _
      refine st112 _ ?_
      show Steps p.tables e below (T112.setTop (mkF m 64 #[.val (.int p0), .val (.int v1), .val (.ref u0), .val (.int (1 : Int32)), .val (.ref ys0), .unset, .unset] [(.ref b112), (.ref ys0)])) _
      refine st148.trans ?_
      show Steps p.tables e below (T148.setTop (mkF m 67 #[.val (.int p0), .val (.int v1), .val (.ref u0), .val (.int (1 : Int32)), .val (.ref ys0), .unset, .unset] [(.int (1 : Int32))])) _
      refine XS.ifYes X148.here hx rfl (pc0 := 67) (pc' := 80) rfl (hb hby at_67) rfl ((if0 _ _).trans (feq (by decide : ¬ ((1 : Int32) = (0 : Int32)))).2) (by decide) (by decide) ?_
      show Steps p.tables e below (T148.setTop (mkF m 80 #[.val (.int p0), .val (.int v1), .val (.ref u0), .val (.int (1 : Int32)), .val (.ref ys0), .unset, .unset] [])) _
      refine XS.iconst X148.here hx rfl (hb hby at_80) ?_
      show Steps p.tables e below (T148.setTop (mkF m 81 #[.val (.int p0), .val (.int v1), .val (.ref u0), .val (.int (1 : Int32)), .val (.ref ys0), .unset, .unset] [(.int (1 : Int32))])) _
      refine XS.goto X148.here hx rfl (pc0 := 81) (pc' := 85) rfl (hb hby at_81) (by decide) (by decide) ?_
      show Steps p.tables e below (T148.setTop (mkF m 85 #[.val (.int p0), .val (.int v1), .val (.ref u0), .val (.int (1 : Int32)), .val (.ref ys0), .unset, .unset] [(.int (1 : Int32))])) _
      refine XS.istore X148.here hx rfl (hb hby at_85) rfl (l' := #[.val (.int p0), .val (.int v1), .val (.ref u0), .val (.int (1 : Int32)), .val (.ref ys0), .val (.int (1 : Int32)), .unset]) rfl ?_
      show Steps p.tables e below (T148.setTop (mkF m 87 #[.val (.int p0), .val (.int v1), .val (.ref u0), .val (.int (1 : Int32)), .val (.ref ys0), .val (.int (1 : Int32)), .unset] [])) _
      refine XS.aloadN X148.here hx rfl (hb hby at_87) rfl rfl ?_
      show Steps p.tables e below (T148.setTop (mkF m 88 #[.val (.int p0), .val (.int v1), .val (.ref u0), .val (.int (1 : Int32)), .val (.ref ys0), .val (.int (1 : Int32)), .unset] [(.ref u0)])) _
      refine st149.trans ?_
      show Steps p.tables e below (T149.setTop (mkF m 91 #[.val (.int p0), .val (.int v1), .val (.ref u0), .val (.int (1 : Int32)), .val (.ref ys0), .val (.int (1 : Int32)), .unset] [(.int (own_r4 u0 u0 u1))])) _
      rw [← hv5]
      show Steps p.tables e below (T149.setTop (mkF m 91 #[.val (.int p0), .val (.int v1), .val (.ref u0), .val (.int (1 : Int32)), .val (.ref ys0), .val (.int (1 : Int32)), .unset] [(.int v5)])) _
      refine XS.istore X149.here hx rfl (hb hby at_91) rfl (l' := #[.val (.int p0), .val (.int v1), .val (.ref u0), .val (.int (1 : Int32)), .val (.ref ys0), .val (.int (1 : Int32)), .val (.int v5)]) rfl ?_
      show Steps p.tables e below (T149.setTop (mkF m 93 #[.val (.int p0), .val (.int v1), .val (.ref u0), .val (.int (1 : Int32)), .val (.ref ys0), .val (.int (1 : Int32)), .val (.int v5)] [])) _
      refine XS.iload X149.here hx rfl (hb hby at_93) rfl ?_
      show Steps p.tables e below (T149.setTop (mkF m 95 #[.val (.int p0), .val (.int v1), .val (.ref u0), .val (.int (1 : Int32)), .val (.ref ys0), .val (.int (1 : Int32)), .val (.int v5)] [(.int v5)])) _
      refine XS.iloadN X149.here hx rfl (hb hby at_95) rfl ?_
      show Steps p.tables e below (T149.setTop (mkF m 96 #[.val (.int p0), .val (.int v1), .val (.ref u0), .val (.int (1 : Int32)), .val (.ref ys0), .val (.int (1 : Int32)), .val (.int v5)] [(.int (1 : Int32)), (.int v5)])) _
      refine st152 _ ?_
      exact kt
    refine own_goW hgo153 ?_
    have hz154 : v7 = 1 := own_leaf0 (p0 := p0) (u0 := u0) (u1 := u1) (u2 := u2) (u3 := u3) (ys0 := ys0) (ys1 := ys1) (ys2 := ys2) (ys3 := ys3) (zs0 := zs0) (zs1 := zs1) (zs2 := zs2) (zs3 := zs3) (ucs := ucs) hv1 hv5 hv7 hc5_2 hne01 hne02 hne03 hne10 hne12 hne13 hne20 hne21 hne23 hne30 hne31 hne32
    exact own_retZW X152 hx Bd.returns Bd.notSynchronized (hb hby at_111) hS112 (by rw [e152]; exact hk112) (by decide) (by decide) (Or.inr hz154) ⟨by rw [hz154], N152⟩
  · have hgo161 : ∀ t, Steps p.tables e below (s₁.setTop (mkF m 17 #[.val (.int p0), .val (.int v1), .unset, .unset, .unset, .unset, .unset] [(.int (1 : Int32)), (.int v1)])) t → Steps p.tables e below (s₁.setTop (mkF m 5 #[.val (.int p0), .val (.int v1), .unset, .unset, .unset, .unset, .unset] [(.int v1)])) t := by
      intro t kt
      show Steps p.tables e below (s₁.setTop (mkF m 5 #[.val (.int p0), .val (.int v1), .unset, .unset, .unset, .unset, .unset] [(.int v1)])) _
      refine XS.ifYes X0.here hx rfl (pc0 := 5) (pc' := 15) rfl (hb hby at_5) rfl ((if0 _ _).trans (feq hc5_2).2) (by decide) (by decide) ?_
      show Steps p.tables e below (s₁.setTop (mkF m 15 #[.val (.int p0), .val (.int v1), .unset, .unset, .unset, .unset, .unset] [])) _
      refine XS.iloadN X0.here hx rfl (hb hby at_15) rfl ?_
      show Steps p.tables e below (s₁.setTop (mkF m 16 #[.val (.int p0), .val (.int v1), .unset, .unset, .unset, .unset, .unset] [(.int v1)])) _
      refine XS.iconst X0.here hx rfl (hb hby at_16) ?_
      exact kt
    refine own_goW hgo161 ?_
    by_cases hc17_8 : v1 = (1 : Int32)
    · obtain ⟨T162, X162, e162, st162⟩ := getS2 X0 hx hZ hown (host := "") (Or.inl (hw _ (List.mem_of_getElem? (i := 45) rfl))) Via.refl e0 S_u1 (g := (mkF m 20 #[.val (.int p0), .val (.int v1), .unset, .unset, .unset, .unset, .unset] [])) rfl (hb hby at_20)
      obtain ⟨cq163, kq163, q163a, q163b, q163c⟩ := isOf hZ e162 E_u1
      obtain ⟨_, _, ⟨T163, L163, k163, n163⟩, -, X163, ⟨Lc163, hQ163, l163, y163, z163⟩, st163⟩ := X162.virtualBack hx (y := (⟨"com/example/muset/muset/sparql/Arithmetic$Operator", "symbol", "()Ljava/lang/String;"⟩ : MethodName)) (z := (⟨"com/example/muset/muset/sparql/Arithmetic$Operator", "symbol", "()Ljava/lang/String;"⟩ : MethodName)) hown (mvT hZ (hw _ (List.mem_of_getElem? (i := 3) rfl))) (mvT hZ (hw _ (List.mem_of_getElem? (i := 4) rfl))) (notFace_of_selects (args := #[]) (mvT hZ (hw _ (List.mem_of_getElem? (i := 6) rfl)))) (mvT hZ (hw _ (List.mem_of_getElem? (i := 6) rfl))) (mvT hZ (hw _ (List.mem_of_getElem? (i := 5) rfl))) (by decide) (backOf (W := 0) (rm1 l Z a0 hw [] u1 ys1 h0 n0 Z0 F_su1) hZ (hw _ (List.mem_of_getElem? (i := 7) rfl)) (hw _ (List.mem_of_getElem? (i := 1) rfl)) (by decide) (by decide)) q163a q163c (g := (mkF m 55 #[.val (.int p0), .val (.int v1), .val (.ref u1), .val (.int (1 : Int32)), .unset, .unset, .unset] [(.ref u1)])) rfl (by rw [hml]; rfl) (Steps.refl _) (argsL := []) (rest := []) (lenOf pd4 rfl) rfl (by show 2 * 0 + _ ≤ _; exact Nat.le_of_eq rfl) (hb hby at_55) (fun _ _ => ⟨rfl, e162, (by decide : 0 + 0 ≤ _), (by decide : 0 + 0 ≤ _)⟩)
      dsimp only [Pt.U, Pt.locs, Pt.cells, Pt.slots] at X163 l163 y163 z163 st163 hQ163
      subst l163 y163 z163
      obtain ⟨rfl, N163q, e163⟩ := hQ163
      have N163 := Fr.app N0 N163q
      obtain ⟨b164, T164, h164, k164, y164, kk164, X164, e164, E164, hS164, hk164, hZ, hown, EX164, FC164, FV164, AV164, -, -, I164, st164⟩ := ldcSV (s := s) (vm0 := s.vm) X163 hx hZ hown (hw _ (List.mem_of_getElem? (i := 10) rfl)) (fun d hd => hw d ((by decide +kernel : ∀ d ∈ Bundle.stringAtoms, d ∈ tables_1) d hd)) e163 (State.WarmedH.since (State.WarmedH.refl s) 0) (Nat.zero_le _) (by rw [hh, ← hn0]; exact N163) (fun b cl q => by rw [hh, ← hkp]; exact q) I0 (by decide) hl26 hcw (vs := [.int (43 : Int32)]) (z := 1) (by decide +kernel) (by decide) rfl (g := (mkF m 62 #[.val (.int p0), .val (.int v1), .val (.ref u1), .val (.int (1 : Int32)), .val (.ref ys1), .unset, .unset] [(.ref ys1)])) rfl (hb hby at_62) (n := 4) (by decide) (by decide) (by decide) (by decide)
      have F165 := S_u0.ext E164
      have F166 := E_u0.ext E164
      have F167 := F_ou0.ext E164
      have F168 := F_su0.ext E164
      have F169 := E_ys0.ext E164
      have F170 := F_cys0.ext E164
      have F171 := F_vys0.ext E164
      have F172 := A_zs0.ext E164
      have F173 := S_u1.ext E164
      have F174 := E_u1.ext E164
      have F175 := F_ou1.ext E164
      have F176 := F_su1.ext E164
      have F177 := E_ys1.ext E164
      have F178 := F_cys1.ext E164
      have F179 := F_vys1.ext E164
      have F180 := A_zs1.ext E164
      have F181 := S_u2.ext E164
      have F182 := E_u2.ext E164
      have F183 := F_ou2.ext E164
      have F184 := F_su2.ext E164
      have F185 := E_ys2.ext E164
      have F186 := F_cys2.ext E164
      have F187 := F_vys2.ext E164
      have F188 := A_zs2.ext E164
      have F189 := S_u3.ext E164
      have F190 := E_u3.ext E164
      have F191 := F_ou3.ext E164
      have F192 := F_su3.ext E164
      have F193 := E_ys3.ext E164
      have F194 := F_cys3.ext E164
      have F195 := F_vys3.ext E164
      have F196 := A_zs3.ext E164
      have F197 := S_cs.ext E164
      have Z198 : n0 ≤ h164.size := Nat.le_trans Z0 E164.1
      have K199 : Keep h0 h164 [] := K0.ext E164
      have AA164 := own_ofArv AV164
      obtain ⟨cq200, kq200, q200a, q200b, q200c⟩ := isOf hZ e164 F177
      obtain ⟨_, _, ⟨T200, L200, k200, n200⟩, -, X200, ⟨Lc200, hQ200, l200, y200, z200⟩, st200⟩ := X164.virtualBack hx (y := (⟨"java/lang/String", "equals", "(Ljava/lang/Object;)Z"⟩ : MethodName)) (z := (⟨"java/lang/String", "equals", "(Ljava/lang/Object;)Z"⟩ : MethodName)) hown (mvT hZ (hw _ (List.mem_of_getElem? (i := 18) rfl))) (mvT hZ (hw _ (List.mem_of_getElem? (i := 19) rfl))) (notFace_of_selects (args := #[]) (mvT hZ (hw _ (List.mem_of_getElem? (i := 21) rfl)))) (mvT hZ (hw _ (List.mem_of_getElem? (i := 21) rfl))) (mvT hZ (hw _ (List.mem_of_getElem? (i := 20) rfl))) (by decide) (backOf (W := 0) (rm2F l Z a0 hw [] ys1 b164 ucs zs1 y164 (fun _ => (45 : Int32)) (fun _ => (43 : Int32)) h164 n0 Z198 F197 (by first | assumption | decide : ¬ (ucs = (0 : Int32))) F177 F178 F179 F180 EX164 FC164 FV164 AA164 (by first | assumption | decide : ¬ (((fun _ => (45 : Int32)) 0) = ((fun _ => (43 : Int32)) 0)))) hZ (hw _ (List.mem_of_getElem? (i := 22) rfl)) (hw _ (List.mem_of_getElem? (i := 11) rfl)) (by decide) (by decide)) q200a q200c (g := (mkF m 64 #[.val (.int p0), .val (.int v1), .val (.ref u1), .val (.int (1 : Int32)), .val (.ref ys1), .unset, .unset] [(.ref b164), (.ref ys1)])) rfl (by rw [hml]; rfl) (Steps.refl _) (argsL := [(.ref b164)]) (rest := []) (lenOf pd5 rfl) rfl (by show 2 * 0 + _ ≤ _; exact Nat.le_of_eq rfl) (hb hby at_64) (fun _ _ => ⟨rfl, e164, (by decide : 2 + 0 ≤ _), (by decide : 8 + 0 ≤ _)⟩)
      dsimp only [Pt.U, Pt.locs, Pt.cells, Pt.slots] at X200 l200 y200 z200 st200 hQ200
      subst l200 y200 z200
      obtain ⟨rfl, N200q, e200⟩ := hQ200
      have N200 := Fr.app N163 N200q
      obtain ⟨b201, T201, h201, k201, y201, kk201, X201, e201, E201, hS201, hk201, hZ, hown, EX201, FC201, FV201, AV201, -, -, I201, st201⟩ := ldcSV (s := s) (vm0 := T164.vm) X200 hx hZ hown (hw _ (List.mem_of_getElem? (i := 40) rfl)) (fun d hd => hw d ((by decide +kernel : ∀ d ∈ Bundle.stringAtoms, d ∈ tables_1) d hd)) e200 hS164 hk164 (by rw [hh, ← hn0]; exact N200) (fun b cl q => by rw [hh, ← hkp]; exact q) I164 (by decide) hl34 hcw (vs := [.int (45 : Int32)]) (z := 1) (by decide +kernel) (by decide) rfl (g := (mkF m 72 #[.val (.int p0), .val (.int v1), .val (.ref u1), .val (.int (1 : Int32)), .val (.ref ys1), .unset, .unset] [(.ref ys1)])) rfl (hb hby at_72) (n := 4) (by decide) (by decide) (by decide) (by decide)
      have F202 := F165.ext E201
      have F203 := F166.ext E201
      have F204 := F167.ext E201
      have F205 := F168.ext E201
      have F206 := F169.ext E201
      have F207 := F170.ext E201
      have F208 := F171.ext E201
      have F209 := F172.ext E201
      have F210 := F173.ext E201
      have F211 := F174.ext E201
      have F212 := F175.ext E201
      have F213 := F176.ext E201
      have F214 := F177.ext E201
      have F215 := F178.ext E201
      have F216 := F179.ext E201
      have F217 := F180.ext E201
      have F218 := F181.ext E201
      have F219 := F182.ext E201
      have F220 := F183.ext E201
      have F221 := F184.ext E201
      have F222 := F185.ext E201
      have F223 := F186.ext E201
      have F224 := F187.ext E201
      have F225 := F188.ext E201
      have F226 := F189.ext E201
      have F227 := F190.ext E201
      have F228 := F191.ext E201
      have F229 := F192.ext E201
      have F230 := F193.ext E201
      have F231 := F194.ext E201
      have F232 := F195.ext E201
      have F233 := F196.ext E201
      have F234 := F197.ext E201
      have F235 := EX164.ext E201
      have F236 := FC164.ext E201
      have F237 := FV164.ext E201
      have F238 := AA164.ext E201
      have Z239 : n0 ≤ h201.size := Nat.le_trans Z198 E201.1
      have K240 : Keep h0 h201 [] := K199.ext E201
      have AA201 := own_ofArv AV201
      obtain ⟨cq241, kq241, q241a, q241b, q241c⟩ := isOf hZ e201 F214
      obtain ⟨_, _, ⟨T241, L241, k241, n241⟩, -, X241, ⟨Lc241, hQ241, l241, y241, z241⟩, st241⟩ := X201.virtualBack hx (y := (⟨"java/lang/String", "equals", "(Ljava/lang/Object;)Z"⟩ : MethodName)) (z := (⟨"java/lang/String", "equals", "(Ljava/lang/Object;)Z"⟩ : MethodName)) hown (mvT hZ (hw _ (List.mem_of_getElem? (i := 18) rfl))) (mvT hZ (hw _ (List.mem_of_getElem? (i := 19) rfl))) (notFace_of_selects (args := #[]) (mvT hZ (hw _ (List.mem_of_getElem? (i := 21) rfl)))) (mvT hZ (hw _ (List.mem_of_getElem? (i := 21) rfl))) (mvT hZ (hw _ (List.mem_of_getElem? (i := 20) rfl))) (by decide) (backOf (W := 0) (rm2T l Z a0 hw [] ys1 b201 ucs zs1 y201 (fun _ => (45 : Int32)) (fun _ => (45 : Int32)) h201 n0 Z239 F234 (by first | assumption | decide : ¬ (ucs = (0 : Int32))) F214 F215 F216 F217 EX201 FC201 FV201 AA201 (by first | assumption | decide : ((fun _ => (45 : Int32)) 0) = ((fun _ => (45 : Int32)) 0))) hZ (hw _ (List.mem_of_getElem? (i := 22) rfl)) (hw _ (List.mem_of_getElem? (i := 11) rfl)) (by decide) (by decide)) q241a q241c (g := (mkF m 74 #[.val (.int p0), .val (.int v1), .val (.ref u1), .val (.int (1 : Int32)), .val (.ref ys1), .unset, .unset] [(.ref b201), (.ref ys1)])) rfl (by rw [hml]; rfl) (Steps.refl _) (argsL := [(.ref b201)]) (rest := []) (lenOf pd5 rfl) rfl (by show 2 * 0 + _ ≤ _; exact Nat.le_of_eq rfl) (hb hby at_74) (fun _ _ => ⟨rfl, e201, (by decide : 4 + 0 ≤ _), (by decide : 16 + 0 ≤ _)⟩)
      dsimp only [Pt.U, Pt.locs, Pt.cells, Pt.slots] at X241 l241 y241 z241 st241 hQ241
      subst l241 y241 z241
      obtain ⟨rfl, N241q, e241⟩ := hQ241
      have N241 := Fr.app N200 N241q
      obtain ⟨cq242, kq242, q242a, q242b, q242c⟩ := isOf hZ e241 F211
      obtain ⟨_, _, ⟨T242, L242, k242, n242⟩, -, X242, ⟨Lc242, hQ242, l242, y242, z242⟩, st242⟩ := X241.virtualBack hx (y := (⟨"com/example/muset/muset/sparql/Arithmetic$Operator", "isAdditive", "()Z"⟩ : MethodName)) (z := (⟨"com/example/muset/muset/sparql/Arithmetic$Operator", "isAdditive", "()Z"⟩ : MethodName)) hown (mvT hZ (hw _ (List.mem_of_getElem? (i := 32) rfl))) (mvT hZ (hw _ (List.mem_of_getElem? (i := 33) rfl))) (notFace_of_selects (args := #[]) (mvT hZ (hw _ (List.mem_of_getElem? (i := 35) rfl)))) (mvT hZ (hw _ (List.mem_of_getElem? (i := 35) rfl))) (mvT hZ (hw _ (List.mem_of_getElem? (i := 34) rfl))) (by decide) (backOf (W := 0) (rm4 l Z a0 hw [] u1 u0 u1 h201 n0 Z239 F202 F210) hZ (hw _ (List.mem_of_getElem? (i := 36) rfl)) (hw _ (List.mem_of_getElem? (i := 1) rfl)) (by decide) (by decide)) q242a q242c (g := (mkF m 88 #[.val (.int p0), .val (.int v1), .val (.ref u1), .val (.int (1 : Int32)), .val (.ref ys1), .val (.int (1 : Int32)), .unset] [(.ref u1)])) rfl (by rw [hml]; rfl) (Steps.refl _) (argsL := []) (rest := []) (lenOf pd6 rfl) rfl (by show 2 * 0 + _ ≤ _; exact Nat.le_of_eq rfl) (hb hby at_88) (fun _ _ => ⟨rfl, e241, (by decide : 4 + 0 ≤ _), (by decide : 16 + 0 ≤ _)⟩)
      dsimp only [Pt.U, Pt.locs, Pt.cells, Pt.slots] at X242 l242 y242 z242 st242 hQ242
      subst l242 y242 z242
      obtain ⟨rfl, N242q, e242⟩ := hQ242
      have N242 := Fr.app N241 N242q
      obtain ⟨v10, hv10⟩ : ∃ z : Int32, z = (own_r4 u1 u0 u1) := ⟨_, rfl⟩
      obtain ⟨v12, hv12⟩ : ∃ z : Int32, z = (if v10 = (1 : Int32) then (1 : Int32) else (0 : Int32)) := ⟨_, rfl⟩
      obtain ⟨T245, lc245, X245, N245, e245, st245⟩ := own_mrg (n0 := n0) (h := h201) (g := (mkF m 96 #[.val (.int p0), .val (.int v1), .val (.ref u1), .val (.int (1 : Int32)), .val (.ref ys1), .val (.int (1 : Int32)), .val (.int v10)] [(.int (1 : Int32)), (.int v10)])) (g' := (mkF m 111 #[.val (.int p0), .val (.int v1), .val (.ref u1), .val (.int (1 : Int32)), .val (.ref ys1), .val (.int (1 : Int32)), .val (.int v10)] [(.int v12)])) X242 (by
        by_cases hc96_11 : v10 = (1 : Int32)
        · have hgo243 : ∀ t, Steps p.tables e below (T242.setTop (mkF m 111 #[.val (.int p0), .val (.int v1), .val (.ref u1), .val (.int (1 : Int32)), .val (.ref ys1), .val (.int (1 : Int32)), .val (.int v10)] [(.int (1 : Int32))])) t → Steps p.tables e below (T242.setTop (mkF m 96 #[.val (.int p0), .val (.int v1), .val (.ref u1), .val (.int (1 : Int32)), .val (.ref ys1), .val (.int (1 : Int32)), .val (.int v10)] [(.int (1 : Int32)), (.int v10)])) t := by
            intro t kt
            show Steps p.tables e below (T242.setTop (mkF m 96 #[.val (.int p0), .val (.int v1), .val (.ref u1), .val (.int (1 : Int32)), .val (.ref ys1), .val (.int (1 : Int32)), .val (.int v10)] [(.int (1 : Int32)), (.int v10)])) _
            refine XS.icmpNo X242.here hx rfl (hb hby at_96) rfl (teq hc96_11).2 ?_
            show Steps p.tables e below (T242.setTop (mkF m 99 #[.val (.int p0), .val (.int v1), .val (.ref u1), .val (.int (1 : Int32)), .val (.ref ys1), .val (.int (1 : Int32)), .val (.int v10)] [])) _
            refine XS.iload X242.here hx rfl (hb hby at_99) rfl ?_
            show Steps p.tables e below (T242.setTop (mkF m 101 #[.val (.int p0), .val (.int v1), .val (.ref u1), .val (.int (1 : Int32)), .val (.ref ys1), .val (.int (1 : Int32)), .val (.int v10)] [(.int v10)])) _
            refine XS.iload X242.here hx rfl (hb hby at_101) rfl ?_
            show Steps p.tables e below (T242.setTop (mkF m 103 #[.val (.int p0), .val (.int v1), .val (.ref u1), .val (.int (1 : Int32)), .val (.ref ys1), .val (.int (1 : Int32)), .val (.int v10)] [(.int (1 : Int32)), (.int v10)])) _
            refine XS.icmpNo X242.here hx rfl (hb hby at_103) rfl (teq hc96_11).2 ?_
            show Steps p.tables e below (T242.setTop (mkF m 106 #[.val (.int p0), .val (.int v1), .val (.ref u1), .val (.int (1 : Int32)), .val (.ref ys1), .val (.int (1 : Int32)), .val (.int v10)] [])) _
            refine XS.iconst X242.here hx rfl (hb hby at_106) ?_
            show Steps p.tables e below (T242.setTop (mkF m 107 #[.val (.int p0), .val (.int v1), .val (.ref u1), .val (.int (1 : Int32)), .val (.ref ys1), .val (.int (1 : Int32)), .val (.int v10)] [(.int (1 : Int32))])) _
            refine XS.goto X242.here hx rfl (pc0 := 107) (pc' := 111) rfl (hb hby at_107) (by decide) (by decide) ?_
            exact kt
          refine own_arm hgo243 ?_
          exact own_armEnd X242 N242 e242 (by rw [hv12.trans (if_pos hc96_11)])
        · have hgo244 : ∀ t, Steps p.tables e below (T242.setTop (mkF m 111 #[.val (.int p0), .val (.int v1), .val (.ref u1), .val (.int (1 : Int32)), .val (.ref ys1), .val (.int (1 : Int32)), .val (.int v10)] [(.int (0 : Int32))])) t → Steps p.tables e below (T242.setTop (mkF m 96 #[.val (.int p0), .val (.int v1), .val (.ref u1), .val (.int (1 : Int32)), .val (.ref ys1), .val (.int (1 : Int32)), .val (.int v10)] [(.int (1 : Int32)), (.int v10)])) t := by
            intro t kt
            show Steps p.tables e below (T242.setTop (mkF m 96 #[.val (.int p0), .val (.int v1), .val (.ref u1), .val (.int (1 : Int32)), .val (.ref ys1), .val (.int (1 : Int32)), .val (.int v10)] [(.int (1 : Int32)), (.int v10)])) _
            refine XS.icmpYes X242.here hx rfl (pc0 := 96) (pc' := 110) rfl (hb hby at_96) rfl (feq hc96_11).2 (by decide) (by decide) ?_
            show Steps p.tables e below (T242.setTop (mkF m 110 #[.val (.int p0), .val (.int v1), .val (.ref u1), .val (.int (1 : Int32)), .val (.ref ys1), .val (.int (1 : Int32)), .val (.int v10)] [])) _
            refine XS.iconst X242.here hx rfl (hb hby at_110) ?_
            exact kt
          refine own_arm hgo244 ?_
          exact own_armEnd X242 N242 e242 (by rw [hv12.trans (if_neg hc96_11)]))
      have hgo246 : ∀ t, Steps p.tables e below (T245.setTop (mkF m 111 #[.val (.int p0), .val (.int v1), .val (.ref u1), .val (.int (1 : Int32)), .val (.ref ys1), .val (.int (1 : Int32)), .val (.int v10)] [(.int v12)])) t → Steps p.tables e below (s₁.setTop (mkF m 17 #[.val (.int p0), .val (.int v1), .unset, .unset, .unset, .unset, .unset] [(.int (1 : Int32)), (.int v1)])) t := by
        intro t kt
        show Steps p.tables e below (s₁.setTop (mkF m 17 #[.val (.int p0), .val (.int v1), .unset, .unset, .unset, .unset, .unset] [(.int (1 : Int32)), (.int v1)])) _
        refine XS.icmpNo X0.here hx rfl (hb hby at_17) rfl (teq hc17_8).2 ?_
        show Steps p.tables e below (s₁.setTop (mkF m 20 #[.val (.int p0), .val (.int v1), .unset, .unset, .unset, .unset, .unset] [])) _
        refine st162 _ ?_
        show Steps p.tables e below (T162.setTop (mkF m 23 #[.val (.int p0), .val (.int v1), .unset, .unset, .unset, .unset, .unset] [(.ref u1)])) _
        refine XS.astoreN X162.here hx rfl (hb hby at_23) rfl rfl (l' := #[.val (.int p0), .val (.int v1), .val (.ref u1), .unset, .unset, .unset, .unset]) rfl ?_
        show Steps p.tables e below (T162.setTop (mkF m 24 #[.val (.int p0), .val (.int v1), .val (.ref u1), .unset, .unset, .unset, .unset] [])) _
        refine XS.goto X162.here hx rfl (pc0 := 24) (pc' := 43) rfl (hb hby at_24) (by decide) (by decide) ?_
        show Steps p.tables e below (T162.setTop (mkF m 43 #[.val (.int p0), .val (.int v1), .val (.ref u1), .unset, .unset, .unset, .unset] [])) _
        refine XS.iloadN X162.here hx rfl (hb hby at_43) rfl ?_
        show Steps p.tables e below (T162.setTop (mkF m 44 #[.val (.int p0), .val (.int v1), .val (.ref u1), .unset, .unset, .unset, .unset] [(.int v1)])) _
        refine XS.iconst X162.here hx rfl (hb hby at_44) ?_
        show Steps p.tables e below (T162.setTop (mkF m 45 #[.val (.int p0), .val (.int v1), .val (.ref u1), .unset, .unset, .unset, .unset] [(.int (2 : Int32)), (.int v1)])) _
        refine XS.icmpNo X162.here hx rfl (hb hby at_45) rfl (tlt (by have y0 := hc17_8; simp only [Int32.lt_iff_toInt_lt, ← Int32.toInt_inj, Int32.reduceToInt] at y0 ⊢; omega : v1 < (2 : Int32))).2.1 ?_
        show Steps p.tables e below (T162.setTop (mkF m 48 #[.val (.int p0), .val (.int v1), .val (.ref u1), .unset, .unset, .unset, .unset] [])) _
        refine XS.iconst X162.here hx rfl (hb hby at_48) ?_
        show Steps p.tables e below (T162.setTop (mkF m 49 #[.val (.int p0), .val (.int v1), .val (.ref u1), .unset, .unset, .unset, .unset] [(.int (1 : Int32))])) _
        refine XS.goto X162.here hx rfl (pc0 := 49) (pc' := 53) rfl (hb hby at_49) (by decide) (by decide) ?_
        show Steps p.tables e below (T162.setTop (mkF m 53 #[.val (.int p0), .val (.int v1), .val (.ref u1), .unset, .unset, .unset, .unset] [(.int (1 : Int32))])) _
        refine XS.istoreN X162.here hx rfl (hb hby at_53) rfl (l' := #[.val (.int p0), .val (.int v1), .val (.ref u1), .val (.int (1 : Int32)), .unset, .unset, .unset]) rfl ?_
        show Steps p.tables e below (T162.setTop (mkF m 54 #[.val (.int p0), .val (.int v1), .val (.ref u1), .val (.int (1 : Int32)), .unset, .unset, .unset] [])) _
        refine XS.aloadN X162.here hx rfl (hb hby at_54) rfl rfl ?_
        show Steps p.tables e below (T162.setTop (mkF m 55 #[.val (.int p0), .val (.int v1), .val (.ref u1), .val (.int (1 : Int32)), .unset, .unset, .unset] [(.ref u1)])) _
        refine st163.trans ?_
        show Steps p.tables e below (T163.setTop (mkF m 58 #[.val (.int p0), .val (.int v1), .val (.ref u1), .val (.int (1 : Int32)), .unset, .unset, .unset] [(.ref ys1)])) _
        refine XS.astore X163.here hx rfl (hb hby at_58) rfl rfl (l' := #[.val (.int p0), .val (.int v1), .val (.ref u1), .val (.int (1 : Int32)), .val (.ref ys1), .unset, .unset]) rfl ?_
        show Steps p.tables e below (T163.setTop (mkF m 60 #[.val (.int p0), .val (.int v1), .val (.ref u1), .val (.int (1 : Int32)), .val (.ref ys1), .unset, .unset] [])) _
        refine XS.aload X163.here hx rfl (hb hby at_60) rfl rfl ?_
        show Steps p.tables e below (T163.setTop (mkF m 62 #[.val (.int p0), .val (.int v1), .val (.ref u1), .val (.int (1 : Int32)), .val (.ref ys1), .unset, .unset] [(.ref ys1)])) _
        refine st164 _ ?_
        show Steps p.tables e below (T164.setTop (mkF m 64 #[.val (.int p0), .val (.int v1), .val (.ref u1), .val (.int (1 : Int32)), .val (.ref ys1), .unset, .unset] [(.ref b164), (.ref ys1)])) _
        refine st200.trans ?_
        show Steps p.tables e below (T200.setTop (mkF m 67 #[.val (.int p0), .val (.int v1), .val (.ref u1), .val (.int (1 : Int32)), .val (.ref ys1), .unset, .unset] [(.int (0 : Int32))])) _
        refine XS.ifNo X200.here hx rfl (hb hby at_67) rfl ((if0 _ _).trans (teq (by decide : (0 : Int32) = (0 : Int32))).2) ?_
        show Steps p.tables e below (T200.setTop (mkF m 70 #[.val (.int p0), .val (.int v1), .val (.ref u1), .val (.int (1 : Int32)), .val (.ref ys1), .unset, .unset] [])) _
        refine XS.aload X200.here hx rfl (hb hby at_70) rfl rfl ?_
        show Steps p.tables e below (T200.setTop (mkF m 72 #[.val (.int p0), .val (.int v1), .val (.ref u1), .val (.int (1 : Int32)), .val (.ref ys1), .unset, .unset] [(.ref ys1)])) _
        refine st201 _ ?_
        show Steps p.tables e below (T201.setTop (mkF m 74 #[.val (.int p0), .val (.int v1), .val (.ref u1), .val (.int (1 : Int32)), .val (.ref ys1), .unset, .unset] [(.ref b201), (.ref ys1)])) _
        refine st241.trans ?_
        show Steps p.tables e below (T241.setTop (mkF m 77 #[.val (.int p0), .val (.int v1), .val (.ref u1), .val (.int (1 : Int32)), .val (.ref ys1), .unset, .unset] [(.int (1 : Int32))])) _
        refine XS.ifNo X241.here hx rfl (hb hby at_77) rfl ((if0 _ _).trans (feq (by decide : ¬ ((1 : Int32) = (0 : Int32)))).1) ?_
        show Steps p.tables e below (T241.setTop (mkF m 80 #[.val (.int p0), .val (.int v1), .val (.ref u1), .val (.int (1 : Int32)), .val (.ref ys1), .unset, .unset] [])) _
        refine XS.iconst X241.here hx rfl (hb hby at_80) ?_
        show Steps p.tables e below (T241.setTop (mkF m 81 #[.val (.int p0), .val (.int v1), .val (.ref u1), .val (.int (1 : Int32)), .val (.ref ys1), .unset, .unset] [(.int (1 : Int32))])) _
        refine XS.goto X241.here hx rfl (pc0 := 81) (pc' := 85) rfl (hb hby at_81) (by decide) (by decide) ?_
        show Steps p.tables e below (T241.setTop (mkF m 85 #[.val (.int p0), .val (.int v1), .val (.ref u1), .val (.int (1 : Int32)), .val (.ref ys1), .unset, .unset] [(.int (1 : Int32))])) _
        refine XS.istore X241.here hx rfl (hb hby at_85) rfl (l' := #[.val (.int p0), .val (.int v1), .val (.ref u1), .val (.int (1 : Int32)), .val (.ref ys1), .val (.int (1 : Int32)), .unset]) rfl ?_
        show Steps p.tables e below (T241.setTop (mkF m 87 #[.val (.int p0), .val (.int v1), .val (.ref u1), .val (.int (1 : Int32)), .val (.ref ys1), .val (.int (1 : Int32)), .unset] [])) _
        refine XS.aloadN X241.here hx rfl (hb hby at_87) rfl rfl ?_
        show Steps p.tables e below (T241.setTop (mkF m 88 #[.val (.int p0), .val (.int v1), .val (.ref u1), .val (.int (1 : Int32)), .val (.ref ys1), .val (.int (1 : Int32)), .unset] [(.ref u1)])) _
        refine st242.trans ?_
        show Steps p.tables e below (T242.setTop (mkF m 91 #[.val (.int p0), .val (.int v1), .val (.ref u1), .val (.int (1 : Int32)), .val (.ref ys1), .val (.int (1 : Int32)), .unset] [(.int (own_r4 u1 u0 u1))])) _
        rw [← hv10]
        show Steps p.tables e below (T242.setTop (mkF m 91 #[.val (.int p0), .val (.int v1), .val (.ref u1), .val (.int (1 : Int32)), .val (.ref ys1), .val (.int (1 : Int32)), .unset] [(.int v10)])) _
        refine XS.istore X242.here hx rfl (hb hby at_91) rfl (l' := #[.val (.int p0), .val (.int v1), .val (.ref u1), .val (.int (1 : Int32)), .val (.ref ys1), .val (.int (1 : Int32)), .val (.int v10)]) rfl ?_
        show Steps p.tables e below (T242.setTop (mkF m 93 #[.val (.int p0), .val (.int v1), .val (.ref u1), .val (.int (1 : Int32)), .val (.ref ys1), .val (.int (1 : Int32)), .val (.int v10)] [])) _
        refine XS.iload X242.here hx rfl (hb hby at_93) rfl ?_
        show Steps p.tables e below (T242.setTop (mkF m 95 #[.val (.int p0), .val (.int v1), .val (.ref u1), .val (.int (1 : Int32)), .val (.ref ys1), .val (.int (1 : Int32)), .val (.int v10)] [(.int v10)])) _
        refine XS.iloadN X242.here hx rfl (hb hby at_95) rfl ?_
        show Steps p.tables e below (T242.setTop (mkF m 96 #[.val (.int p0), .val (.int v1), .val (.ref u1), .val (.int (1 : Int32)), .val (.ref ys1), .val (.int (1 : Int32)), .val (.int v10)] [(.int (1 : Int32)), (.int v10)])) _
        refine st245 _ ?_
        exact kt
      refine own_goW hgo246 ?_
      have hz247 : v12 = 1 := own_leaf1 (p0 := p0) (u0 := u0) (u1 := u1) (u2 := u2) (u3 := u3) (ys0 := ys0) (ys1 := ys1) (ys2 := ys2) (ys3 := ys3) (zs0 := zs0) (zs1 := zs1) (zs2 := zs2) (zs3 := zs3) (ucs := ucs) hv1 hv10 hv12 hc5_2 hc17_8 hne01 hne02 hne03 hne10 hne12 hne13 hne20 hne21 hne23 hne30 hne31 hne32
      exact own_retZW X245 hx Bd.returns Bd.notSynchronized (hb hby at_111) hS201 (by rw [e245]; exact hk201) (by decide) (by decide) (Or.inr hz247) ⟨by rw [hz247], N245⟩
    · have hgo252 : ∀ t, Steps p.tables e below (s₁.setTop (mkF m 29 #[.val (.int p0), .val (.int v1), .unset, .unset, .unset, .unset, .unset] [(.int (2 : Int32)), (.int v1)])) t → Steps p.tables e below (s₁.setTop (mkF m 17 #[.val (.int p0), .val (.int v1), .unset, .unset, .unset, .unset, .unset] [(.int (1 : Int32)), (.int v1)])) t := by
        intro t kt
        show Steps p.tables e below (s₁.setTop (mkF m 17 #[.val (.int p0), .val (.int v1), .unset, .unset, .unset, .unset, .unset] [(.int (1 : Int32)), (.int v1)])) _
        refine XS.icmpYes X0.here hx rfl (pc0 := 17) (pc' := 27) rfl (hb hby at_17) rfl (feq hc17_8).2 (by decide) (by decide) ?_
        show Steps p.tables e below (s₁.setTop (mkF m 27 #[.val (.int p0), .val (.int v1), .unset, .unset, .unset, .unset, .unset] [])) _
        refine XS.iloadN X0.here hx rfl (hb hby at_27) rfl ?_
        show Steps p.tables e below (s₁.setTop (mkF m 28 #[.val (.int p0), .val (.int v1), .unset, .unset, .unset, .unset, .unset] [(.int v1)])) _
        refine XS.iconst X0.here hx rfl (hb hby at_28) ?_
        exact kt
      refine own_goW hgo252 ?_
      by_cases hc29_13 : v1 = (2 : Int32)
      · obtain ⟨T253, X253, e253, st253⟩ := getS2 X0 hx hZ hown (host := "") (Or.inl (hw _ (List.mem_of_getElem? (i := 43) rfl))) Via.refl e0 S_u2 (g := (mkF m 32 #[.val (.int p0), .val (.int v1), .unset, .unset, .unset, .unset, .unset] [])) rfl (hb hby at_32)
        obtain ⟨cq254, kq254, q254a, q254b, q254c⟩ := isOf hZ e253 E_u2
        obtain ⟨_, _, ⟨T254, L254, k254, n254⟩, -, X254, ⟨Lc254, hQ254, l254, y254, z254⟩, st254⟩ := X253.virtualBack hx (y := (⟨"com/example/muset/muset/sparql/Arithmetic$Operator", "symbol", "()Ljava/lang/String;"⟩ : MethodName)) (z := (⟨"com/example/muset/muset/sparql/Arithmetic$Operator", "symbol", "()Ljava/lang/String;"⟩ : MethodName)) hown (mvT hZ (hw _ (List.mem_of_getElem? (i := 3) rfl))) (mvT hZ (hw _ (List.mem_of_getElem? (i := 4) rfl))) (notFace_of_selects (args := #[]) (mvT hZ (hw _ (List.mem_of_getElem? (i := 6) rfl)))) (mvT hZ (hw _ (List.mem_of_getElem? (i := 6) rfl))) (mvT hZ (hw _ (List.mem_of_getElem? (i := 5) rfl))) (by decide) (backOf (W := 0) (rm1 l Z a0 hw [] u2 ys2 h0 n0 Z0 F_su2) hZ (hw _ (List.mem_of_getElem? (i := 7) rfl)) (hw _ (List.mem_of_getElem? (i := 1) rfl)) (by decide) (by decide)) q254a q254c (g := (mkF m 55 #[.val (.int p0), .val (.int v1), .val (.ref u2), .val (.int (0 : Int32)), .unset, .unset, .unset] [(.ref u2)])) rfl (by rw [hml]; rfl) (Steps.refl _) (argsL := []) (rest := []) (lenOf pd4 rfl) rfl (by show 2 * 0 + _ ≤ _; exact Nat.le_of_eq rfl) (hb hby at_55) (fun _ _ => ⟨rfl, e253, (by decide : 0 + 0 ≤ _), (by decide : 0 + 0 ≤ _)⟩)
        dsimp only [Pt.U, Pt.locs, Pt.cells, Pt.slots] at X254 l254 y254 z254 st254 hQ254
        subst l254 y254 z254
        obtain ⟨rfl, N254q, e254⟩ := hQ254
        have N254 := Fr.app N0 N254q
        obtain ⟨b255, T255, h255, k255, y255, kk255, X255, e255, E255, hS255, hk255, hZ, hown, EX255, FC255, FV255, AV255, -, -, I255, st255⟩ := ldcSV (s := s) (vm0 := s.vm) X254 hx hZ hown (hw _ (List.mem_of_getElem? (i := 10) rfl)) (fun d hd => hw d ((by decide +kernel : ∀ d ∈ Bundle.stringAtoms, d ∈ tables_1) d hd)) e254 (State.WarmedH.since (State.WarmedH.refl s) 0) (Nat.zero_le _) (by rw [hh, ← hn0]; exact N254) (fun b cl q => by rw [hh, ← hkp]; exact q) I0 (by decide) hl26 hcw (vs := [.int (43 : Int32)]) (z := 1) (by decide +kernel) (by decide) rfl (g := (mkF m 62 #[.val (.int p0), .val (.int v1), .val (.ref u2), .val (.int (0 : Int32)), .val (.ref ys2), .unset, .unset] [(.ref ys2)])) rfl (hb hby at_62) (n := 4) (by decide) (by decide) (by decide) (by decide)
        have F256 := S_u0.ext E255
        have F257 := E_u0.ext E255
        have F258 := F_ou0.ext E255
        have F259 := F_su0.ext E255
        have F260 := E_ys0.ext E255
        have F261 := F_cys0.ext E255
        have F262 := F_vys0.ext E255
        have F263 := A_zs0.ext E255
        have F264 := S_u1.ext E255
        have F265 := E_u1.ext E255
        have F266 := F_ou1.ext E255
        have F267 := F_su1.ext E255
        have F268 := E_ys1.ext E255
        have F269 := F_cys1.ext E255
        have F270 := F_vys1.ext E255
        have F271 := A_zs1.ext E255
        have F272 := S_u2.ext E255
        have F273 := E_u2.ext E255
        have F274 := F_ou2.ext E255
        have F275 := F_su2.ext E255
        have F276 := E_ys2.ext E255
        have F277 := F_cys2.ext E255
        have F278 := F_vys2.ext E255
        have F279 := A_zs2.ext E255
        have F280 := S_u3.ext E255
        have F281 := E_u3.ext E255
        have F282 := F_ou3.ext E255
        have F283 := F_su3.ext E255
        have F284 := E_ys3.ext E255
        have F285 := F_cys3.ext E255
        have F286 := F_vys3.ext E255
        have F287 := A_zs3.ext E255
        have F288 := S_cs.ext E255
        have Z289 : n0 ≤ h255.size := Nat.le_trans Z0 E255.1
        have K290 : Keep h0 h255 [] := K0.ext E255
        have AA255 := own_ofArv AV255
        obtain ⟨cq291, kq291, q291a, q291b, q291c⟩ := isOf hZ e255 F276
        obtain ⟨_, _, ⟨T291, L291, k291, n291⟩, -, X291, ⟨Lc291, hQ291, l291, y291, z291⟩, st291⟩ := X255.virtualBack hx (y := (⟨"java/lang/String", "equals", "(Ljava/lang/Object;)Z"⟩ : MethodName)) (z := (⟨"java/lang/String", "equals", "(Ljava/lang/Object;)Z"⟩ : MethodName)) hown (mvT hZ (hw _ (List.mem_of_getElem? (i := 18) rfl))) (mvT hZ (hw _ (List.mem_of_getElem? (i := 19) rfl))) (notFace_of_selects (args := #[]) (mvT hZ (hw _ (List.mem_of_getElem? (i := 21) rfl)))) (mvT hZ (hw _ (List.mem_of_getElem? (i := 21) rfl))) (mvT hZ (hw _ (List.mem_of_getElem? (i := 20) rfl))) (by decide) (backOf (W := 0) (rm2F l Z a0 hw [] ys2 b255 ucs zs2 y255 (fun _ => (42 : Int32)) (fun _ => (43 : Int32)) h255 n0 Z289 F288 (by first | assumption | decide : ¬ (ucs = (0 : Int32))) F276 F277 F278 F279 EX255 FC255 FV255 AA255 (by first | assumption | decide : ¬ (((fun _ => (42 : Int32)) 0) = ((fun _ => (43 : Int32)) 0)))) hZ (hw _ (List.mem_of_getElem? (i := 22) rfl)) (hw _ (List.mem_of_getElem? (i := 11) rfl)) (by decide) (by decide)) q291a q291c (g := (mkF m 64 #[.val (.int p0), .val (.int v1), .val (.ref u2), .val (.int (0 : Int32)), .val (.ref ys2), .unset, .unset] [(.ref b255), (.ref ys2)])) rfl (by rw [hml]; rfl) (Steps.refl _) (argsL := [(.ref b255)]) (rest := []) (lenOf pd5 rfl) rfl (by show 2 * 0 + _ ≤ _; exact Nat.le_of_eq rfl) (hb hby at_64) (fun _ _ => ⟨rfl, e255, (by decide : 2 + 0 ≤ _), (by decide : 8 + 0 ≤ _)⟩)
        dsimp only [Pt.U, Pt.locs, Pt.cells, Pt.slots] at X291 l291 y291 z291 st291 hQ291
        subst l291 y291 z291
        obtain ⟨rfl, N291q, e291⟩ := hQ291
        have N291 := Fr.app N254 N291q
        obtain ⟨b292, T292, h292, k292, y292, kk292, X292, e292, E292, hS292, hk292, hZ, hown, EX292, FC292, FV292, AV292, -, -, I292, st292⟩ := ldcSV (s := s) (vm0 := T255.vm) X291 hx hZ hown (hw _ (List.mem_of_getElem? (i := 40) rfl)) (fun d hd => hw d ((by decide +kernel : ∀ d ∈ Bundle.stringAtoms, d ∈ tables_1) d hd)) e291 hS255 hk255 (by rw [hh, ← hn0]; exact N291) (fun b cl q => by rw [hh, ← hkp]; exact q) I255 (by decide) hl34 hcw (vs := [.int (45 : Int32)]) (z := 1) (by decide +kernel) (by decide) rfl (g := (mkF m 72 #[.val (.int p0), .val (.int v1), .val (.ref u2), .val (.int (0 : Int32)), .val (.ref ys2), .unset, .unset] [(.ref ys2)])) rfl (hb hby at_72) (n := 4) (by decide) (by decide) (by decide) (by decide)
        have F293 := F256.ext E292
        have F294 := F257.ext E292
        have F295 := F258.ext E292
        have F296 := F259.ext E292
        have F297 := F260.ext E292
        have F298 := F261.ext E292
        have F299 := F262.ext E292
        have F300 := F263.ext E292
        have F301 := F264.ext E292
        have F302 := F265.ext E292
        have F303 := F266.ext E292
        have F304 := F267.ext E292
        have F305 := F268.ext E292
        have F306 := F269.ext E292
        have F307 := F270.ext E292
        have F308 := F271.ext E292
        have F309 := F272.ext E292
        have F310 := F273.ext E292
        have F311 := F274.ext E292
        have F312 := F275.ext E292
        have F313 := F276.ext E292
        have F314 := F277.ext E292
        have F315 := F278.ext E292
        have F316 := F279.ext E292
        have F317 := F280.ext E292
        have F318 := F281.ext E292
        have F319 := F282.ext E292
        have F320 := F283.ext E292
        have F321 := F284.ext E292
        have F322 := F285.ext E292
        have F323 := F286.ext E292
        have F324 := F287.ext E292
        have F325 := F288.ext E292
        have F326 := EX255.ext E292
        have F327 := FC255.ext E292
        have F328 := FV255.ext E292
        have F329 := AA255.ext E292
        have Z330 : n0 ≤ h292.size := Nat.le_trans Z289 E292.1
        have K331 : Keep h0 h292 [] := K290.ext E292
        have AA292 := own_ofArv AV292
        obtain ⟨cq332, kq332, q332a, q332b, q332c⟩ := isOf hZ e292 F313
        obtain ⟨_, _, ⟨T332, L332, k332, n332⟩, -, X332, ⟨Lc332, hQ332, l332, y332, z332⟩, st332⟩ := X292.virtualBack hx (y := (⟨"java/lang/String", "equals", "(Ljava/lang/Object;)Z"⟩ : MethodName)) (z := (⟨"java/lang/String", "equals", "(Ljava/lang/Object;)Z"⟩ : MethodName)) hown (mvT hZ (hw _ (List.mem_of_getElem? (i := 18) rfl))) (mvT hZ (hw _ (List.mem_of_getElem? (i := 19) rfl))) (notFace_of_selects (args := #[]) (mvT hZ (hw _ (List.mem_of_getElem? (i := 21) rfl)))) (mvT hZ (hw _ (List.mem_of_getElem? (i := 21) rfl))) (mvT hZ (hw _ (List.mem_of_getElem? (i := 20) rfl))) (by decide) (backOf (W := 0) (rm2F l Z a0 hw [] ys2 b292 ucs zs2 y292 (fun _ => (42 : Int32)) (fun _ => (45 : Int32)) h292 n0 Z330 F325 (by first | assumption | decide : ¬ (ucs = (0 : Int32))) F313 F314 F315 F316 EX292 FC292 FV292 AA292 (by first | assumption | decide : ¬ (((fun _ => (42 : Int32)) 0) = ((fun _ => (45 : Int32)) 0)))) hZ (hw _ (List.mem_of_getElem? (i := 22) rfl)) (hw _ (List.mem_of_getElem? (i := 11) rfl)) (by decide) (by decide)) q332a q332c (g := (mkF m 74 #[.val (.int p0), .val (.int v1), .val (.ref u2), .val (.int (0 : Int32)), .val (.ref ys2), .unset, .unset] [(.ref b292), (.ref ys2)])) rfl (by rw [hml]; rfl) (Steps.refl _) (argsL := [(.ref b292)]) (rest := []) (lenOf pd5 rfl) rfl (by show 2 * 0 + _ ≤ _; exact Nat.le_of_eq rfl) (hb hby at_74) (fun _ _ => ⟨rfl, e292, (by decide : 4 + 0 ≤ _), (by decide : 16 + 0 ≤ _)⟩)
        dsimp only [Pt.U, Pt.locs, Pt.cells, Pt.slots] at X332 l332 y332 z332 st332 hQ332
        subst l332 y332 z332
        obtain ⟨rfl, N332q, e332⟩ := hQ332
        have N332 := Fr.app N291 N332q
        obtain ⟨cq333, kq333, q333a, q333b, q333c⟩ := isOf hZ e332 F310
        obtain ⟨_, _, ⟨T333, L333, k333, n333⟩, -, X333, ⟨Lc333, hQ333, l333, y333, z333⟩, st333⟩ := X332.virtualBack hx (y := (⟨"com/example/muset/muset/sparql/Arithmetic$Operator", "isAdditive", "()Z"⟩ : MethodName)) (z := (⟨"com/example/muset/muset/sparql/Arithmetic$Operator", "isAdditive", "()Z"⟩ : MethodName)) hown (mvT hZ (hw _ (List.mem_of_getElem? (i := 32) rfl))) (mvT hZ (hw _ (List.mem_of_getElem? (i := 33) rfl))) (notFace_of_selects (args := #[]) (mvT hZ (hw _ (List.mem_of_getElem? (i := 35) rfl)))) (mvT hZ (hw _ (List.mem_of_getElem? (i := 35) rfl))) (mvT hZ (hw _ (List.mem_of_getElem? (i := 34) rfl))) (by decide) (backOf (W := 0) (rm4 l Z a0 hw [] u2 u0 u1 h292 n0 Z330 F293 F301) hZ (hw _ (List.mem_of_getElem? (i := 36) rfl)) (hw _ (List.mem_of_getElem? (i := 1) rfl)) (by decide) (by decide)) q333a q333c (g := (mkF m 88 #[.val (.int p0), .val (.int v1), .val (.ref u2), .val (.int (0 : Int32)), .val (.ref ys2), .val (.int (0 : Int32)), .unset] [(.ref u2)])) rfl (by rw [hml]; rfl) (Steps.refl _) (argsL := []) (rest := []) (lenOf pd6 rfl) rfl (by show 2 * 0 + _ ≤ _; exact Nat.le_of_eq rfl) (hb hby at_88) (fun _ _ => ⟨rfl, e332, (by decide : 4 + 0 ≤ _), (by decide : 16 + 0 ≤ _)⟩)
        dsimp only [Pt.U, Pt.locs, Pt.cells, Pt.slots] at X333 l333 y333 z333 st333 hQ333
        subst l333 y333 z333
        obtain ⟨rfl, N333q, e333⟩ := hQ333
        have N333 := Fr.app N332 N333q
        obtain ⟨v14, hv14⟩ : ∃ z : Int32, z = (own_r4 u2 u0 u1) := ⟨_, rfl⟩
        obtain ⟨v16, hv16⟩ : ∃ z : Int32, z = (if v14 = (0 : Int32) then (1 : Int32) else (0 : Int32)) := ⟨_, rfl⟩
        obtain ⟨T336, lc336, X336, N336, e336, st336⟩ := own_mrg (n0 := n0) (h := h292) (g := (mkF m 96 #[.val (.int p0), .val (.int v1), .val (.ref u2), .val (.int (0 : Int32)), .val (.ref ys2), .val (.int (0 : Int32)), .val (.int v14)] [(.int (0 : Int32)), (.int v14)])) (g' := (mkF m 111 #[.val (.int p0), .val (.int v1), .val (.ref u2), .val (.int (0 : Int32)), .val (.ref ys2), .val (.int (0 : Int32)), .val (.int v14)] [(.int v16)])) X333 (by
          by_cases hc96_15 : v14 = (0 : Int32)
          · have hgo334 : ∀ t, Steps p.tables e below (T333.setTop (mkF m 111 #[.val (.int p0), .val (.int v1), .val (.ref u2), .val (.int (0 : Int32)), .val (.ref ys2), .val (.int (0 : Int32)), .val (.int v14)] [(.int (1 : Int32))])) t → Steps p.tables e below (T333.setTop (mkF m 96 #[.val (.int p0), .val (.int v1), .val (.ref u2), .val (.int (0 : Int32)), .val (.ref ys2), .val (.int (0 : Int32)), .val (.int v14)] [(.int (0 : Int32)), (.int v14)])) t := by
              intro t kt
              show Steps p.tables e below (T333.setTop (mkF m 96 #[.val (.int p0), .val (.int v1), .val (.ref u2), .val (.int (0 : Int32)), .val (.ref ys2), .val (.int (0 : Int32)), .val (.int v14)] [(.int (0 : Int32)), (.int v14)])) _
              refine XS.icmpNo X333.here hx rfl (hb hby at_96) rfl (teq hc96_15).2 ?_
              show Steps p.tables e below (T333.setTop (mkF m 99 #[.val (.int p0), .val (.int v1), .val (.ref u2), .val (.int (0 : Int32)), .val (.ref ys2), .val (.int (0 : Int32)), .val (.int v14)] [])) _
              refine XS.iload X333.here hx rfl (hb hby at_99) rfl ?_
              show Steps p.tables e below (T333.setTop (mkF m 101 #[.val (.int p0), .val (.int v1), .val (.ref u2), .val (.int (0 : Int32)), .val (.ref ys2), .val (.int (0 : Int32)), .val (.int v14)] [(.int v14)])) _
              refine XS.iload X333.here hx rfl (hb hby at_101) rfl ?_
              show Steps p.tables e below (T333.setTop (mkF m 103 #[.val (.int p0), .val (.int v1), .val (.ref u2), .val (.int (0 : Int32)), .val (.ref ys2), .val (.int (0 : Int32)), .val (.int v14)] [(.int (0 : Int32)), (.int v14)])) _
              refine XS.icmpNo X333.here hx rfl (hb hby at_103) rfl (teq hc96_15).2 ?_
              show Steps p.tables e below (T333.setTop (mkF m 106 #[.val (.int p0), .val (.int v1), .val (.ref u2), .val (.int (0 : Int32)), .val (.ref ys2), .val (.int (0 : Int32)), .val (.int v14)] [])) _
              refine XS.iconst X333.here hx rfl (hb hby at_106) ?_
              show Steps p.tables e below (T333.setTop (mkF m 107 #[.val (.int p0), .val (.int v1), .val (.ref u2), .val (.int (0 : Int32)), .val (.ref ys2), .val (.int (0 : Int32)), .val (.int v14)] [(.int (1 : Int32))])) _
              refine XS.goto X333.here hx rfl (pc0 := 107) (pc' := 111) rfl (hb hby at_107) (by decide) (by decide) ?_
              exact kt
            refine own_arm hgo334 ?_
            exact own_armEnd X333 N333 e333 (by rw [hv16.trans (if_pos hc96_15)])
          · have hgo335 : ∀ t, Steps p.tables e below (T333.setTop (mkF m 111 #[.val (.int p0), .val (.int v1), .val (.ref u2), .val (.int (0 : Int32)), .val (.ref ys2), .val (.int (0 : Int32)), .val (.int v14)] [(.int (0 : Int32))])) t → Steps p.tables e below (T333.setTop (mkF m 96 #[.val (.int p0), .val (.int v1), .val (.ref u2), .val (.int (0 : Int32)), .val (.ref ys2), .val (.int (0 : Int32)), .val (.int v14)] [(.int (0 : Int32)), (.int v14)])) t := by
              intro t kt
              show Steps p.tables e below (T333.setTop (mkF m 96 #[.val (.int p0), .val (.int v1), .val (.ref u2), .val (.int (0 : Int32)), .val (.ref ys2), .val (.int (0 : Int32)), .val (.int v14)] [(.int (0 : Int32)), (.int v14)])) _
              refine XS.icmpYes X333.here hx rfl (pc0 := 96) (pc' := 110) rfl (hb hby at_96) rfl (feq hc96_15).2 (by decide) (by decide) ?_
              show Steps p.tables e below (T333.setTop (mkF m 110 #[.val (.int p0), .val (.int v1), .val (.ref u2), .val (.int (0 : Int32)), .val (.ref ys2), .val (.int (0 : Int32)), .val (.int v14)] [])) _
              refine XS.iconst X333.here hx rfl (hb hby at_110) ?_
              exact kt
            refine own_arm hgo335 ?_
            exact own_armEnd X333 N333 e333 (by rw [hv16.trans (if_neg hc96_15)]))
        have hgo337 : ∀ t, Steps p.tables e below (T336.setTop (mkF m 111 #[.val (.int p0), .val (.int v1), .val (.ref u2), .val (.int (0 : Int32)), .val (.ref ys2), .val (.int (0 : Int32)), .val (.int v14)] [(.int v16)])) t → Steps p.tables e below (s₁.setTop (mkF m 29 #[.val (.int p0), .val (.int v1), .unset, .unset, .unset, .unset, .unset] [(.int (2 : Int32)), (.int v1)])) t := by
          intro t kt
          show Steps p.tables e below (s₁.setTop (mkF m 29 #[.val (.int p0), .val (.int v1), .unset, .unset, .unset, .unset, .unset] [(.int (2 : Int32)), (.int v1)])) _
          refine XS.icmpNo X0.here hx rfl (hb hby at_29) rfl (teq hc29_13).2 ?_
          show Steps p.tables e below (s₁.setTop (mkF m 32 #[.val (.int p0), .val (.int v1), .unset, .unset, .unset, .unset, .unset] [])) _
          refine st253 _ ?_
          show Steps p.tables e below (T253.setTop (mkF m 35 #[.val (.int p0), .val (.int v1), .unset, .unset, .unset, .unset, .unset] [(.ref u2)])) _
          refine XS.astoreN X253.here hx rfl (hb hby at_35) rfl rfl (l' := #[.val (.int p0), .val (.int v1), .val (.ref u2), .unset, .unset, .unset, .unset]) rfl ?_
          show Steps p.tables e below (T253.setTop (mkF m 36 #[.val (.int p0), .val (.int v1), .val (.ref u2), .unset, .unset, .unset, .unset] [])) _
          refine XS.goto X253.here hx rfl (pc0 := 36) (pc' := 43) rfl (hb hby at_36) (by decide) (by decide) ?_
          show Steps p.tables e below (T253.setTop (mkF m 43 #[.val (.int p0), .val (.int v1), .val (.ref u2), .unset, .unset, .unset, .unset] [])) _
          refine XS.iloadN X253.here hx rfl (hb hby at_43) rfl ?_
          show Steps p.tables e below (T253.setTop (mkF m 44 #[.val (.int p0), .val (.int v1), .val (.ref u2), .unset, .unset, .unset, .unset] [(.int v1)])) _
          refine XS.iconst X253.here hx rfl (hb hby at_44) ?_
          show Steps p.tables e below (T253.setTop (mkF m 45 #[.val (.int p0), .val (.int v1), .val (.ref u2), .unset, .unset, .unset, .unset] [(.int (2 : Int32)), (.int v1)])) _
          refine XS.icmpYes X253.here hx rfl (pc0 := 45) (pc' := 52) rfl (hb hby at_45) rfl (flt (by have y0 := hc29_13; simp only [Int32.lt_iff_toInt_lt, ← Int32.toInt_inj, Int32.reduceToInt] at y0 ⊢; omega : ¬ (v1 < (2 : Int32)))).2.1 (by decide) (by decide) ?_
          show Steps p.tables e below (T253.setTop (mkF m 52 #[.val (.int p0), .val (.int v1), .val (.ref u2), .unset, .unset, .unset, .unset] [])) _
          refine XS.iconst X253.here hx rfl (hb hby at_52) ?_
          show Steps p.tables e below (T253.setTop (mkF m 53 #[.val (.int p0), .val (.int v1), .val (.ref u2), .unset, .unset, .unset, .unset] [(.int (0 : Int32))])) _
          refine XS.istoreN X253.here hx rfl (hb hby at_53) rfl (l' := #[.val (.int p0), .val (.int v1), .val (.ref u2), .val (.int (0 : Int32)), .unset, .unset, .unset]) rfl ?_
          show Steps p.tables e below (T253.setTop (mkF m 54 #[.val (.int p0), .val (.int v1), .val (.ref u2), .val (.int (0 : Int32)), .unset, .unset, .unset] [])) _
          refine XS.aloadN X253.here hx rfl (hb hby at_54) rfl rfl ?_
          show Steps p.tables e below (T253.setTop (mkF m 55 #[.val (.int p0), .val (.int v1), .val (.ref u2), .val (.int (0 : Int32)), .unset, .unset, .unset] [(.ref u2)])) _
          refine st254.trans ?_
          show Steps p.tables e below (T254.setTop (mkF m 58 #[.val (.int p0), .val (.int v1), .val (.ref u2), .val (.int (0 : Int32)), .unset, .unset, .unset] [(.ref ys2)])) _
          refine XS.astore X254.here hx rfl (hb hby at_58) rfl rfl (l' := #[.val (.int p0), .val (.int v1), .val (.ref u2), .val (.int (0 : Int32)), .val (.ref ys2), .unset, .unset]) rfl ?_
          show Steps p.tables e below (T254.setTop (mkF m 60 #[.val (.int p0), .val (.int v1), .val (.ref u2), .val (.int (0 : Int32)), .val (.ref ys2), .unset, .unset] [])) _
          refine XS.aload X254.here hx rfl (hb hby at_60) rfl rfl ?_
          show Steps p.tables e below (T254.setTop (mkF m 62 #[.val (.int p0), .val (.int v1), .val (.ref u2), .val (.int (0 : Int32)), .val (.ref ys2), .unset, .unset] [(.ref ys2)])) _
          refine st255 _ ?_
          show Steps p.tables e below (T255.setTop (mkF m 64 #[.val (.int p0), .val (.int v1), .val (.ref u2), .val (.int (0 : Int32)), .val (.ref ys2), .unset, .unset] [(.ref b255), (.ref ys2)])) _
          refine st291.trans ?_
          show Steps p.tables e below (T291.setTop (mkF m 67 #[.val (.int p0), .val (.int v1), .val (.ref u2), .val (.int (0 : Int32)), .val (.ref ys2), .unset, .unset] [(.int (0 : Int32))])) _
          refine XS.ifNo X291.here hx rfl (hb hby at_67) rfl ((if0 _ _).trans (teq (by decide : (0 : Int32) = (0 : Int32))).2) ?_
          show Steps p.tables e below (T291.setTop (mkF m 70 #[.val (.int p0), .val (.int v1), .val (.ref u2), .val (.int (0 : Int32)), .val (.ref ys2), .unset, .unset] [])) _
          refine XS.aload X291.here hx rfl (hb hby at_70) rfl rfl ?_
          show Steps p.tables e below (T291.setTop (mkF m 72 #[.val (.int p0), .val (.int v1), .val (.ref u2), .val (.int (0 : Int32)), .val (.ref ys2), .unset, .unset] [(.ref ys2)])) _
          refine st292 _ ?_
          show Steps p.tables e below (T292.setTop (mkF m 74 #[.val (.int p0), .val (.int v1), .val (.ref u2), .val (.int (0 : Int32)), .val (.ref ys2), .unset, .unset] [(.ref b292), (.ref ys2)])) _
          refine st332.trans ?_
          show Steps p.tables e below (T332.setTop (mkF m 77 #[.val (.int p0), .val (.int v1), .val (.ref u2), .val (.int (0 : Int32)), .val (.ref ys2), .unset, .unset] [(.int (0 : Int32))])) _
          refine XS.ifYes X332.here hx rfl (pc0 := 77) (pc' := 84) rfl (hb hby at_77) rfl ((if0 _ _).trans (teq (by decide : (0 : Int32) = (0 : Int32))).1) (by decide) (by decide) ?_
          show Steps p.tables e below (T332.setTop (mkF m 84 #[.val (.int p0), .val (.int v1), .val (.ref u2), .val (.int (0 : Int32)), .val (.ref ys2), .unset, .unset] [])) _
          refine XS.iconst X332.here hx rfl (hb hby at_84) ?_
          show Steps p.tables e below (T332.setTop (mkF m 85 #[.val (.int p0), .val (.int v1), .val (.ref u2), .val (.int (0 : Int32)), .val (.ref ys2), .unset, .unset] [(.int (0 : Int32))])) _
          refine XS.istore X332.here hx rfl (hb hby at_85) rfl (l' := #[.val (.int p0), .val (.int v1), .val (.ref u2), .val (.int (0 : Int32)), .val (.ref ys2), .val (.int (0 : Int32)), .unset]) rfl ?_
          show Steps p.tables e below (T332.setTop (mkF m 87 #[.val (.int p0), .val (.int v1), .val (.ref u2), .val (.int (0 : Int32)), .val (.ref ys2), .val (.int (0 : Int32)), .unset] [])) _
          refine XS.aloadN X332.here hx rfl (hb hby at_87) rfl rfl ?_
          show Steps p.tables e below (T332.setTop (mkF m 88 #[.val (.int p0), .val (.int v1), .val (.ref u2), .val (.int (0 : Int32)), .val (.ref ys2), .val (.int (0 : Int32)), .unset] [(.ref u2)])) _
          refine st333.trans ?_
          show Steps p.tables e below (T333.setTop (mkF m 91 #[.val (.int p0), .val (.int v1), .val (.ref u2), .val (.int (0 : Int32)), .val (.ref ys2), .val (.int (0 : Int32)), .unset] [(.int (own_r4 u2 u0 u1))])) _
          rw [← hv14]
          show Steps p.tables e below (T333.setTop (mkF m 91 #[.val (.int p0), .val (.int v1), .val (.ref u2), .val (.int (0 : Int32)), .val (.ref ys2), .val (.int (0 : Int32)), .unset] [(.int v14)])) _
          refine XS.istore X333.here hx rfl (hb hby at_91) rfl (l' := #[.val (.int p0), .val (.int v1), .val (.ref u2), .val (.int (0 : Int32)), .val (.ref ys2), .val (.int (0 : Int32)), .val (.int v14)]) rfl ?_
          show Steps p.tables e below (T333.setTop (mkF m 93 #[.val (.int p0), .val (.int v1), .val (.ref u2), .val (.int (0 : Int32)), .val (.ref ys2), .val (.int (0 : Int32)), .val (.int v14)] [])) _
          refine XS.iload X333.here hx rfl (hb hby at_93) rfl ?_
          show Steps p.tables e below (T333.setTop (mkF m 95 #[.val (.int p0), .val (.int v1), .val (.ref u2), .val (.int (0 : Int32)), .val (.ref ys2), .val (.int (0 : Int32)), .val (.int v14)] [(.int v14)])) _
          refine XS.iloadN X333.here hx rfl (hb hby at_95) rfl ?_
          show Steps p.tables e below (T333.setTop (mkF m 96 #[.val (.int p0), .val (.int v1), .val (.ref u2), .val (.int (0 : Int32)), .val (.ref ys2), .val (.int (0 : Int32)), .val (.int v14)] [(.int (0 : Int32)), (.int v14)])) _
          refine st336 _ ?_
          exact kt
        refine own_goW hgo337 ?_
        have hz338 : v16 = 1 := own_leaf2 (p0 := p0) (u0 := u0) (u1 := u1) (u2 := u2) (u3 := u3) (ys0 := ys0) (ys1 := ys1) (ys2 := ys2) (ys3 := ys3) (zs0 := zs0) (zs1 := zs1) (zs2 := zs2) (zs3 := zs3) (ucs := ucs) hv1 hv14 hv16 hc5_2 hc17_8 hc29_13 hne01 hne02 hne03 hne10 hne12 hne13 hne20 hne21 hne23 hne30 hne31 hne32
        exact own_retZW X336 hx Bd.returns Bd.notSynchronized (hb hby at_111) hS292 (by rw [e336]; exact hk292) (by decide) (by decide) (Or.inr hz338) ⟨by rw [hz338], N336⟩
      · obtain ⟨T339, X339, e339, st339⟩ := getS2 X0 hx hZ hown (host := "") (Or.inl (hw _ (List.mem_of_getElem? (i := 38) rfl))) Via.refl e0 S_u3 (g := (mkF m 39 #[.val (.int p0), .val (.int v1), .unset, .unset, .unset, .unset, .unset] [])) rfl (hb hby at_39)
        obtain ⟨v18, hv18⟩ : ∃ z : Int32, z = (if v1 < (2 : Int32) then (1 : Int32) else (0 : Int32)) := ⟨_, rfl⟩
        obtain ⟨T342, lc342, X342, N342, e342, st342⟩ := own_mrg (n0 := n0) (h := h0) (g := (mkF m 45 #[.val (.int p0), .val (.int v1), .val (.ref u3), .unset, .unset, .unset, .unset] [(.int (2 : Int32)), (.int v1)])) (g' := (mkF m 53 #[.val (.int p0), .val (.int v1), .val (.ref u3), .unset, .unset, .unset, .unset] [(.int v18)])) X339 (by
          by_cases hc45_17 : v1 < (2 : Int32)
          · have hgo340 : ∀ t, Steps p.tables e below (T339.setTop (mkF m 53 #[.val (.int p0), .val (.int v1), .val (.ref u3), .unset, .unset, .unset, .unset] [(.int (1 : Int32))])) t → Steps p.tables e below (T339.setTop (mkF m 45 #[.val (.int p0), .val (.int v1), .val (.ref u3), .unset, .unset, .unset, .unset] [(.int (2 : Int32)), (.int v1)])) t := by
              intro t kt
              show Steps p.tables e below (T339.setTop (mkF m 45 #[.val (.int p0), .val (.int v1), .val (.ref u3), .unset, .unset, .unset, .unset] [(.int (2 : Int32)), (.int v1)])) _
              refine XS.icmpNo X339.here hx rfl (hb hby at_45) rfl (tlt hc45_17).2.1 ?_
              show Steps p.tables e below (T339.setTop (mkF m 48 #[.val (.int p0), .val (.int v1), .val (.ref u3), .unset, .unset, .unset, .unset] [])) _
              refine XS.iconst X339.here hx rfl (hb hby at_48) ?_
              show Steps p.tables e below (T339.setTop (mkF m 49 #[.val (.int p0), .val (.int v1), .val (.ref u3), .unset, .unset, .unset, .unset] [(.int (1 : Int32))])) _
              refine XS.goto X339.here hx rfl (pc0 := 49) (pc' := 53) rfl (hb hby at_49) (by decide) (by decide) ?_
              exact kt
            refine own_arm hgo340 ?_
            exact own_armEnd X339 N0 e339 (by rw [hv18.trans (if_pos hc45_17)])
          · have hgo341 : ∀ t, Steps p.tables e below (T339.setTop (mkF m 53 #[.val (.int p0), .val (.int v1), .val (.ref u3), .unset, .unset, .unset, .unset] [(.int (0 : Int32))])) t → Steps p.tables e below (T339.setTop (mkF m 45 #[.val (.int p0), .val (.int v1), .val (.ref u3), .unset, .unset, .unset, .unset] [(.int (2 : Int32)), (.int v1)])) t := by
              intro t kt
              show Steps p.tables e below (T339.setTop (mkF m 45 #[.val (.int p0), .val (.int v1), .val (.ref u3), .unset, .unset, .unset, .unset] [(.int (2 : Int32)), (.int v1)])) _
              refine XS.icmpYes X339.here hx rfl (pc0 := 45) (pc' := 52) rfl (hb hby at_45) rfl (flt hc45_17).2.1 (by decide) (by decide) ?_
              show Steps p.tables e below (T339.setTop (mkF m 52 #[.val (.int p0), .val (.int v1), .val (.ref u3), .unset, .unset, .unset, .unset] [])) _
              refine XS.iconst X339.here hx rfl (hb hby at_52) ?_
              exact kt
            refine own_arm hgo341 ?_
            exact own_armEnd X339 N0 e339 (by rw [hv18.trans (if_neg hc45_17)]))
        obtain ⟨cq343, kq343, q343a, q343b, q343c⟩ := isOf hZ e342 E_u3
        obtain ⟨_, _, ⟨T343, L343, k343, n343⟩, -, X343, ⟨Lc343, hQ343, l343, y343, z343⟩, st343⟩ := X342.virtualBack hx (y := (⟨"com/example/muset/muset/sparql/Arithmetic$Operator", "symbol", "()Ljava/lang/String;"⟩ : MethodName)) (z := (⟨"com/example/muset/muset/sparql/Arithmetic$Operator", "symbol", "()Ljava/lang/String;"⟩ : MethodName)) hown (mvT hZ (hw _ (List.mem_of_getElem? (i := 3) rfl))) (mvT hZ (hw _ (List.mem_of_getElem? (i := 4) rfl))) (notFace_of_selects (args := #[]) (mvT hZ (hw _ (List.mem_of_getElem? (i := 6) rfl)))) (mvT hZ (hw _ (List.mem_of_getElem? (i := 6) rfl))) (mvT hZ (hw _ (List.mem_of_getElem? (i := 5) rfl))) (by decide) (backOf (W := 0) (rm1 l Z a0 hw [] u3 ys3 h0 n0 Z0 F_su3) hZ (hw _ (List.mem_of_getElem? (i := 7) rfl)) (hw _ (List.mem_of_getElem? (i := 1) rfl)) (by decide) (by decide)) q343a q343c (g := (mkF m 55 #[.val (.int p0), .val (.int v1), .val (.ref u3), .val (.int v18), .unset, .unset, .unset] [(.ref u3)])) rfl (by rw [hml]; rfl) (Steps.refl _) (argsL := []) (rest := []) (lenOf pd4 rfl) rfl (by show 2 * 0 + _ ≤ _; exact Nat.le_of_eq rfl) (hb hby at_55) (fun _ _ => ⟨rfl, e342, (by decide : 0 + 0 ≤ _), (by decide : 0 + 0 ≤ _)⟩)
        dsimp only [Pt.U, Pt.locs, Pt.cells, Pt.slots] at X343 l343 y343 z343 st343 hQ343
        subst l343 y343 z343
        obtain ⟨rfl, N343q, e343⟩ := hQ343
        have N343 := Fr.app N342 N343q
        obtain ⟨b344, T344, h344, k344, y344, kk344, X344, e344, E344, hS344, hk344, hZ, hown, EX344, FC344, FV344, AV344, -, -, I344, st344⟩ := ldcSV (s := s) (vm0 := s.vm) X343 hx hZ hown (hw _ (List.mem_of_getElem? (i := 10) rfl)) (fun d hd => hw d ((by decide +kernel : ∀ d ∈ Bundle.stringAtoms, d ∈ tables_1) d hd)) e343 (State.WarmedH.since (State.WarmedH.refl s) 0) (Nat.zero_le _) (by rw [hh, ← hn0]; exact N343) (fun b cl q => by rw [hh, ← hkp]; exact q) I0 (by decide) hl26 hcw (vs := [.int (43 : Int32)]) (z := 1) (by decide +kernel) (by decide) rfl (g := (mkF m 62 #[.val (.int p0), .val (.int v1), .val (.ref u3), .val (.int v18), .val (.ref ys3), .unset, .unset] [(.ref ys3)])) rfl (hb hby at_62) (n := 4) (by decide) (by decide) (by decide) (by decide)
        have F345 := S_u0.ext E344
        have F346 := E_u0.ext E344
        have F347 := F_ou0.ext E344
        have F348 := F_su0.ext E344
        have F349 := E_ys0.ext E344
        have F350 := F_cys0.ext E344
        have F351 := F_vys0.ext E344
        have F352 := A_zs0.ext E344
        have F353 := S_u1.ext E344
        have F354 := E_u1.ext E344
        have F355 := F_ou1.ext E344
        have F356 := F_su1.ext E344
        have F357 := E_ys1.ext E344
        have F358 := F_cys1.ext E344
        have F359 := F_vys1.ext E344
        have F360 := A_zs1.ext E344
        have F361 := S_u2.ext E344
        have F362 := E_u2.ext E344
        have F363 := F_ou2.ext E344
        have F364 := F_su2.ext E344
        have F365 := E_ys2.ext E344
        have F366 := F_cys2.ext E344
        have F367 := F_vys2.ext E344
        have F368 := A_zs2.ext E344
        have F369 := S_u3.ext E344
        have F370 := E_u3.ext E344
        have F371 := F_ou3.ext E344
        have F372 := F_su3.ext E344
        have F373 := E_ys3.ext E344
        have F374 := F_cys3.ext E344
        have F375 := F_vys3.ext E344
        have F376 := A_zs3.ext E344
        have F377 := S_cs.ext E344
        have Z378 : n0 ≤ h344.size := Nat.le_trans Z0 E344.1
        have K379 : Keep h0 h344 [] := K0.ext E344
        have AA344 := own_ofArv AV344
        obtain ⟨cq380, kq380, q380a, q380b, q380c⟩ := isOf hZ e344 F373
        obtain ⟨_, _, ⟨T380, L380, k380, n380⟩, -, X380, ⟨Lc380, hQ380, l380, y380, z380⟩, st380⟩ := X344.virtualBack hx (y := (⟨"java/lang/String", "equals", "(Ljava/lang/Object;)Z"⟩ : MethodName)) (z := (⟨"java/lang/String", "equals", "(Ljava/lang/Object;)Z"⟩ : MethodName)) hown (mvT hZ (hw _ (List.mem_of_getElem? (i := 18) rfl))) (mvT hZ (hw _ (List.mem_of_getElem? (i := 19) rfl))) (notFace_of_selects (args := #[]) (mvT hZ (hw _ (List.mem_of_getElem? (i := 21) rfl)))) (mvT hZ (hw _ (List.mem_of_getElem? (i := 21) rfl))) (mvT hZ (hw _ (List.mem_of_getElem? (i := 20) rfl))) (by decide) (backOf (W := 0) (rm2F l Z a0 hw [] ys3 b344 ucs zs3 y344 (fun _ => (47 : Int32)) (fun _ => (43 : Int32)) h344 n0 Z378 F377 (by first | assumption | decide : ¬ (ucs = (0 : Int32))) F373 F374 F375 F376 EX344 FC344 FV344 AA344 (by first | assumption | decide : ¬ (((fun _ => (47 : Int32)) 0) = ((fun _ => (43 : Int32)) 0)))) hZ (hw _ (List.mem_of_getElem? (i := 22) rfl)) (hw _ (List.mem_of_getElem? (i := 11) rfl)) (by decide) (by decide)) q380a q380c (g := (mkF m 64 #[.val (.int p0), .val (.int v1), .val (.ref u3), .val (.int v18), .val (.ref ys3), .unset, .unset] [(.ref b344), (.ref ys3)])) rfl (by rw [hml]; rfl) (Steps.refl _) (argsL := [(.ref b344)]) (rest := []) (lenOf pd5 rfl) rfl (by show 2 * 0 + _ ≤ _; exact Nat.le_of_eq rfl) (hb hby at_64) (fun _ _ => ⟨rfl, e344, (by decide : 2 + 0 ≤ _), (by decide : 8 + 0 ≤ _)⟩)
        dsimp only [Pt.U, Pt.locs, Pt.cells, Pt.slots] at X380 l380 y380 z380 st380 hQ380
        subst l380 y380 z380
        obtain ⟨rfl, N380q, e380⟩ := hQ380
        have N380 := Fr.app N343 N380q
        obtain ⟨b381, T381, h381, k381, y381, kk381, X381, e381, E381, hS381, hk381, hZ, hown, EX381, FC381, FV381, AV381, -, -, I381, st381⟩ := ldcSV (s := s) (vm0 := T344.vm) X380 hx hZ hown (hw _ (List.mem_of_getElem? (i := 40) rfl)) (fun d hd => hw d ((by decide +kernel : ∀ d ∈ Bundle.stringAtoms, d ∈ tables_1) d hd)) e380 hS344 hk344 (by rw [hh, ← hn0]; exact N380) (fun b cl q => by rw [hh, ← hkp]; exact q) I344 (by decide) hl34 hcw (vs := [.int (45 : Int32)]) (z := 1) (by decide +kernel) (by decide) rfl (g := (mkF m 72 #[.val (.int p0), .val (.int v1), .val (.ref u3), .val (.int v18), .val (.ref ys3), .unset, .unset] [(.ref ys3)])) rfl (hb hby at_72) (n := 4) (by decide) (by decide) (by decide) (by decide)
        have F382 := F345.ext E381
        have F383 := F346.ext E381
        have F384 := F347.ext E381
        have F385 := F348.ext E381
        have F386 := F349.ext E381
        have F387 := F350.ext E381
        have F388 := F351.ext E381
        have F389 := F352.ext E381
        have F390 := F353.ext E381
        have F391 := F354.ext E381
        have F392 := F355.ext E381
        have F393 := F356.ext E381
        have F394 := F357.ext E381
        have F395 := F358.ext E381
        have F396 := F359.ext E381
        have F397 := F360.ext E381
        have F398 := F361.ext E381
        have F399 := F362.ext E381
        have F400 := F363.ext E381
        have F401 := F364.ext E381
        have F402 := F365.ext E381
        have F403 := F366.ext E381
        have F404 := F367.ext E381
        have F405 := F368.ext E381
        have F406 := F369.ext E381
        have F407 := F370.ext E381
        have F408 := F371.ext E381
        have F409 := F372.ext E381
        have F410 := F373.ext E381
        have F411 := F374.ext E381
        have F412 := F375.ext E381
        have F413 := F376.ext E381
        have F414 := F377.ext E381
        have F415 := EX344.ext E381
        have F416 := FC344.ext E381
        have F417 := FV344.ext E381
        have F418 := AA344.ext E381
        have Z419 : n0 ≤ h381.size := Nat.le_trans Z378 E381.1
        have K420 : Keep h0 h381 [] := K379.ext E381
        have AA381 := own_ofArv AV381
        obtain ⟨cq421, kq421, q421a, q421b, q421c⟩ := isOf hZ e381 F410
        obtain ⟨_, _, ⟨T421, L421, k421, n421⟩, -, X421, ⟨Lc421, hQ421, l421, y421, z421⟩, st421⟩ := X381.virtualBack hx (y := (⟨"java/lang/String", "equals", "(Ljava/lang/Object;)Z"⟩ : MethodName)) (z := (⟨"java/lang/String", "equals", "(Ljava/lang/Object;)Z"⟩ : MethodName)) hown (mvT hZ (hw _ (List.mem_of_getElem? (i := 18) rfl))) (mvT hZ (hw _ (List.mem_of_getElem? (i := 19) rfl))) (notFace_of_selects (args := #[]) (mvT hZ (hw _ (List.mem_of_getElem? (i := 21) rfl)))) (mvT hZ (hw _ (List.mem_of_getElem? (i := 21) rfl))) (mvT hZ (hw _ (List.mem_of_getElem? (i := 20) rfl))) (by decide) (backOf (W := 0) (rm2F l Z a0 hw [] ys3 b381 ucs zs3 y381 (fun _ => (47 : Int32)) (fun _ => (45 : Int32)) h381 n0 Z419 F414 (by first | assumption | decide : ¬ (ucs = (0 : Int32))) F410 F411 F412 F413 EX381 FC381 FV381 AA381 (by first | assumption | decide : ¬ (((fun _ => (47 : Int32)) 0) = ((fun _ => (45 : Int32)) 0)))) hZ (hw _ (List.mem_of_getElem? (i := 22) rfl)) (hw _ (List.mem_of_getElem? (i := 11) rfl)) (by decide) (by decide)) q421a q421c (g := (mkF m 74 #[.val (.int p0), .val (.int v1), .val (.ref u3), .val (.int v18), .val (.ref ys3), .unset, .unset] [(.ref b381), (.ref ys3)])) rfl (by rw [hml]; rfl) (Steps.refl _) (argsL := [(.ref b381)]) (rest := []) (lenOf pd5 rfl) rfl (by show 2 * 0 + _ ≤ _; exact Nat.le_of_eq rfl) (hb hby at_74) (fun _ _ => ⟨rfl, e381, (by decide : 4 + 0 ≤ _), (by decide : 16 + 0 ≤ _)⟩)
        dsimp only [Pt.U, Pt.locs, Pt.cells, Pt.slots] at X421 l421 y421 z421 st421 hQ421
        subst l421 y421 z421
        obtain ⟨rfl, N421q, e421⟩ := hQ421
        have N421 := Fr.app N380 N421q
        obtain ⟨cq422, kq422, q422a, q422b, q422c⟩ := isOf hZ e421 F407
        obtain ⟨_, _, ⟨T422, L422, k422, n422⟩, -, X422, ⟨Lc422, hQ422, l422, y422, z422⟩, st422⟩ := X421.virtualBack hx (y := (⟨"com/example/muset/muset/sparql/Arithmetic$Operator", "isAdditive", "()Z"⟩ : MethodName)) (z := (⟨"com/example/muset/muset/sparql/Arithmetic$Operator", "isAdditive", "()Z"⟩ : MethodName)) hown (mvT hZ (hw _ (List.mem_of_getElem? (i := 32) rfl))) (mvT hZ (hw _ (List.mem_of_getElem? (i := 33) rfl))) (notFace_of_selects (args := #[]) (mvT hZ (hw _ (List.mem_of_getElem? (i := 35) rfl)))) (mvT hZ (hw _ (List.mem_of_getElem? (i := 35) rfl))) (mvT hZ (hw _ (List.mem_of_getElem? (i := 34) rfl))) (by decide) (backOf (W := 0) (rm4 l Z a0 hw [] u3 u0 u1 h381 n0 Z419 F382 F390) hZ (hw _ (List.mem_of_getElem? (i := 36) rfl)) (hw _ (List.mem_of_getElem? (i := 1) rfl)) (by decide) (by decide)) q422a q422c (g := (mkF m 88 #[.val (.int p0), .val (.int v1), .val (.ref u3), .val (.int v18), .val (.ref ys3), .val (.int (0 : Int32)), .unset] [(.ref u3)])) rfl (by rw [hml]; rfl) (Steps.refl _) (argsL := []) (rest := []) (lenOf pd6 rfl) rfl (by show 2 * 0 + _ ≤ _; exact Nat.le_of_eq rfl) (hb hby at_88) (fun _ _ => ⟨rfl, e421, (by decide : 4 + 0 ≤ _), (by decide : 16 + 0 ≤ _)⟩)
        dsimp only [Pt.U, Pt.locs, Pt.cells, Pt.slots] at X422 l422 y422 z422 st422 hQ422
        subst l422 y422 z422
        obtain ⟨rfl, N422q, e422⟩ := hQ422
        have N422 := Fr.app N421 N422q
        obtain ⟨v19, hv19⟩ : ∃ z : Int32, z = (own_r4 u3 u0 u1) := ⟨_, rfl⟩
        obtain ⟨v22, hv22⟩ : ∃ z : Int32, z = (if v19 = (0 : Int32) then (1 : Int32) else (0 : Int32)) := ⟨_, rfl⟩
        obtain ⟨v23, hv23⟩ : ∃ z : Int32, z = (if v19 = v18 then v22 else (0 : Int32)) := ⟨_, rfl⟩
        obtain ⟨T428, lc428, X428, N428, e428, st428⟩ := own_mrg (n0 := n0) (h := h381) (g := (mkF m 96 #[.val (.int p0), .val (.int v1), .val (.ref u3), .val (.int v18), .val (.ref ys3), .val (.int (0 : Int32)), .val (.int v19)] [(.int v18), (.int v19)])) (g' := (mkF m 111 #[.val (.int p0), .val (.int v1), .val (.ref u3), .val (.int v18), .val (.ref ys3), .val (.int (0 : Int32)), .val (.int v19)] [(.int v23)])) X422 (by
          by_cases hc96_20 : v19 = v18
          · obtain ⟨T425, lc425, X425, N425, e425, st425⟩ := own_mrg (n0 := n0) (h := h381) (g := (mkF m 103 #[.val (.int p0), .val (.int v1), .val (.ref u3), .val (.int v18), .val (.ref ys3), .val (.int (0 : Int32)), .val (.int v19)] [(.int (0 : Int32)), (.int v19)])) (g' := (mkF m 111 #[.val (.int p0), .val (.int v1), .val (.ref u3), .val (.int v18), .val (.ref ys3), .val (.int (0 : Int32)), .val (.int v19)] [(.int v22)])) X422 (by
              by_cases hc103_21 : v19 = (0 : Int32)
              · have hgo423 : ∀ t, Steps p.tables e below (T422.setTop (mkF m 111 #[.val (.int p0), .val (.int v1), .val (.ref u3), .val (.int v18), .val (.ref ys3), .val (.int (0 : Int32)), .val (.int v19)] [(.int (1 : Int32))])) t → Steps p.tables e below (T422.setTop (mkF m 103 #[.val (.int p0), .val (.int v1), .val (.ref u3), .val (.int v18), .val (.ref ys3), .val (.int (0 : Int32)), .val (.int v19)] [(.int (0 : Int32)), (.int v19)])) t := by
                  intro t kt
                  show Steps p.tables e below (T422.setTop (mkF m 103 #[.val (.int p0), .val (.int v1), .val (.ref u3), .val (.int v18), .val (.ref ys3), .val (.int (0 : Int32)), .val (.int v19)] [(.int (0 : Int32)), (.int v19)])) _
                  refine XS.icmpNo X422.here hx rfl (hb hby at_103) rfl (teq hc103_21).2 ?_
                  show Steps p.tables e below (T422.setTop (mkF m 106 #[.val (.int p0), .val (.int v1), .val (.ref u3), .val (.int v18), .val (.ref ys3), .val (.int (0 : Int32)), .val (.int v19)] [])) _
                  refine XS.iconst X422.here hx rfl (hb hby at_106) ?_
                  show Steps p.tables e below (T422.setTop (mkF m 107 #[.val (.int p0), .val (.int v1), .val (.ref u3), .val (.int v18), .val (.ref ys3), .val (.int (0 : Int32)), .val (.int v19)] [(.int (1 : Int32))])) _
                  refine XS.goto X422.here hx rfl (pc0 := 107) (pc' := 111) rfl (hb hby at_107) (by decide) (by decide) ?_
                  exact kt
                refine own_arm hgo423 ?_
                exact own_armEnd X422 N422 e422 (by rw [hv22.trans (if_pos hc103_21)])
              · have hgo424 : ∀ t, Steps p.tables e below (T422.setTop (mkF m 111 #[.val (.int p0), .val (.int v1), .val (.ref u3), .val (.int v18), .val (.ref ys3), .val (.int (0 : Int32)), .val (.int v19)] [(.int (0 : Int32))])) t → Steps p.tables e below (T422.setTop (mkF m 103 #[.val (.int p0), .val (.int v1), .val (.ref u3), .val (.int v18), .val (.ref ys3), .val (.int (0 : Int32)), .val (.int v19)] [(.int (0 : Int32)), (.int v19)])) t := by
                  intro t kt
                  show Steps p.tables e below (T422.setTop (mkF m 103 #[.val (.int p0), .val (.int v1), .val (.ref u3), .val (.int v18), .val (.ref ys3), .val (.int (0 : Int32)), .val (.int v19)] [(.int (0 : Int32)), (.int v19)])) _
                  refine XS.icmpYes X422.here hx rfl (pc0 := 103) (pc' := 110) rfl (hb hby at_103) rfl (feq hc103_21).2 (by decide) (by decide) ?_
                  show Steps p.tables e below (T422.setTop (mkF m 110 #[.val (.int p0), .val (.int v1), .val (.ref u3), .val (.int v18), .val (.ref ys3), .val (.int (0 : Int32)), .val (.int v19)] [])) _
                  refine XS.iconst X422.here hx rfl (hb hby at_110) ?_
                  exact kt
                refine own_arm hgo424 ?_
                exact own_armEnd X422 N422 e422 (by rw [hv22.trans (if_neg hc103_21)]))
            have hgo426 : ∀ t, Steps p.tables e below (T425.setTop (mkF m 111 #[.val (.int p0), .val (.int v1), .val (.ref u3), .val (.int v18), .val (.ref ys3), .val (.int (0 : Int32)), .val (.int v19)] [(.int v22)])) t → Steps p.tables e below (T422.setTop (mkF m 96 #[.val (.int p0), .val (.int v1), .val (.ref u3), .val (.int v18), .val (.ref ys3), .val (.int (0 : Int32)), .val (.int v19)] [(.int v18), (.int v19)])) t := by
              intro t kt
              show Steps p.tables e below (T422.setTop (mkF m 96 #[.val (.int p0), .val (.int v1), .val (.ref u3), .val (.int v18), .val (.ref ys3), .val (.int (0 : Int32)), .val (.int v19)] [(.int v18), (.int v19)])) _
              refine XS.icmpNo X422.here hx rfl (hb hby at_96) rfl (teq hc96_20).2 ?_
              show Steps p.tables e below (T422.setTop (mkF m 99 #[.val (.int p0), .val (.int v1), .val (.ref u3), .val (.int v18), .val (.ref ys3), .val (.int (0 : Int32)), .val (.int v19)] [])) _
              refine XS.iload X422.here hx rfl (hb hby at_99) rfl ?_
              show Steps p.tables e below (T422.setTop (mkF m 101 #[.val (.int p0), .val (.int v1), .val (.ref u3), .val (.int v18), .val (.ref ys3), .val (.int (0 : Int32)), .val (.int v19)] [(.int v19)])) _
              refine XS.iload X422.here hx rfl (hb hby at_101) rfl ?_
              show Steps p.tables e below (T422.setTop (mkF m 103 #[.val (.int p0), .val (.int v1), .val (.ref u3), .val (.int v18), .val (.ref ys3), .val (.int (0 : Int32)), .val (.int v19)] [(.int (0 : Int32)), (.int v19)])) _
              refine st425 _ ?_
              exact kt
            refine own_arm hgo426 ?_
            exact own_armEnd X425 N425 e425 (by rw [hv23.trans (if_pos hc96_20)])
          · have hgo427 : ∀ t, Steps p.tables e below (T422.setTop (mkF m 111 #[.val (.int p0), .val (.int v1), .val (.ref u3), .val (.int v18), .val (.ref ys3), .val (.int (0 : Int32)), .val (.int v19)] [(.int (0 : Int32))])) t → Steps p.tables e below (T422.setTop (mkF m 96 #[.val (.int p0), .val (.int v1), .val (.ref u3), .val (.int v18), .val (.ref ys3), .val (.int (0 : Int32)), .val (.int v19)] [(.int v18), (.int v19)])) t := by
              intro t kt
              show Steps p.tables e below (T422.setTop (mkF m 96 #[.val (.int p0), .val (.int v1), .val (.ref u3), .val (.int v18), .val (.ref ys3), .val (.int (0 : Int32)), .val (.int v19)] [(.int v18), (.int v19)])) _
              refine XS.icmpYes X422.here hx rfl (pc0 := 96) (pc' := 110) rfl (hb hby at_96) rfl (feq hc96_20).2 (by decide) (by decide) ?_
              show Steps p.tables e below (T422.setTop (mkF m 110 #[.val (.int p0), .val (.int v1), .val (.ref u3), .val (.int v18), .val (.ref ys3), .val (.int (0 : Int32)), .val (.int v19)] [])) _
              refine XS.iconst X422.here hx rfl (hb hby at_110) ?_
              exact kt
            refine own_arm hgo427 ?_
            exact own_armEnd X422 N422 e422 (by rw [hv23.trans (if_neg hc96_20)]))
        have hgo429 : ∀ t, Steps p.tables e below (T428.setTop (mkF m 111 #[.val (.int p0), .val (.int v1), .val (.ref u3), .val (.int v18), .val (.ref ys3), .val (.int (0 : Int32)), .val (.int v19)] [(.int v23)])) t → Steps p.tables e below (s₁.setTop (mkF m 29 #[.val (.int p0), .val (.int v1), .unset, .unset, .unset, .unset, .unset] [(.int (2 : Int32)), (.int v1)])) t := by
          intro t kt
          show Steps p.tables e below (s₁.setTop (mkF m 29 #[.val (.int p0), .val (.int v1), .unset, .unset, .unset, .unset, .unset] [(.int (2 : Int32)), (.int v1)])) _
          refine XS.icmpYes X0.here hx rfl (pc0 := 29) (pc' := 39) rfl (hb hby at_29) rfl (feq hc29_13).2 (by decide) (by decide) ?_
          show Steps p.tables e below (s₁.setTop (mkF m 39 #[.val (.int p0), .val (.int v1), .unset, .unset, .unset, .unset, .unset] [])) _
          refine st339 _ ?_
          show Steps p.tables e below (T339.setTop (mkF m 42 #[.val (.int p0), .val (.int v1), .unset, .unset, .unset, .unset, .unset] [(.ref u3)])) _
          refine XS.astoreN X339.here hx rfl (hb hby at_42) rfl rfl (l' := #[.val (.int p0), .val (.int v1), .val (.ref u3), .unset, .unset, .unset, .unset]) rfl ?_
          show Steps p.tables e below (T339.setTop (mkF m 43 #[.val (.int p0), .val (.int v1), .val (.ref u3), .unset, .unset, .unset, .unset] [])) _
          refine XS.iloadN X339.here hx rfl (hb hby at_43) rfl ?_
          show Steps p.tables e below (T339.setTop (mkF m 44 #[.val (.int p0), .val (.int v1), .val (.ref u3), .unset, .unset, .unset, .unset] [(.int v1)])) _
          refine XS.iconst X339.here hx rfl (hb hby at_44) ?_
          show Steps p.tables e below (T339.setTop (mkF m 45 #[.val (.int p0), .val (.int v1), .val (.ref u3), .unset, .unset, .unset, .unset] [(.int (2 : Int32)), (.int v1)])) _
          refine st342 _ ?_
          show Steps p.tables e below (T342.setTop (mkF m 53 #[.val (.int p0), .val (.int v1), .val (.ref u3), .unset, .unset, .unset, .unset] [(.int v18)])) _
          refine XS.istoreN X342.here hx rfl (hb hby at_53) rfl (l' := #[.val (.int p0), .val (.int v1), .val (.ref u3), .val (.int v18), .unset, .unset, .unset]) rfl ?_
          show Steps p.tables e below (T342.setTop (mkF m 54 #[.val (.int p0), .val (.int v1), .val (.ref u3), .val (.int v18), .unset, .unset, .unset] [])) _
          refine XS.aloadN X342.here hx rfl (hb hby at_54) rfl rfl ?_
          show Steps p.tables e below (T342.setTop (mkF m 55 #[.val (.int p0), .val (.int v1), .val (.ref u3), .val (.int v18), .unset, .unset, .unset] [(.ref u3)])) _
          refine st343.trans ?_
          show Steps p.tables e below (T343.setTop (mkF m 58 #[.val (.int p0), .val (.int v1), .val (.ref u3), .val (.int v18), .unset, .unset, .unset] [(.ref ys3)])) _
          refine XS.astore X343.here hx rfl (hb hby at_58) rfl rfl (l' := #[.val (.int p0), .val (.int v1), .val (.ref u3), .val (.int v18), .val (.ref ys3), .unset, .unset]) rfl ?_
          show Steps p.tables e below (T343.setTop (mkF m 60 #[.val (.int p0), .val (.int v1), .val (.ref u3), .val (.int v18), .val (.ref ys3), .unset, .unset] [])) _
          refine XS.aload X343.here hx rfl (hb hby at_60) rfl rfl ?_
          show Steps p.tables e below (T343.setTop (mkF m 62 #[.val (.int p0), .val (.int v1), .val (.ref u3), .val (.int v18), .val (.ref ys3), .unset, .unset] [(.ref ys3)])) _
          refine st344 _ ?_
          show Steps p.tables e below (T344.setTop (mkF m 64 #[.val (.int p0), .val (.int v1), .val (.ref u3), .val (.int v18), .val (.ref ys3), .unset, .unset] [(.ref b344), (.ref ys3)])) _
          refine st380.trans ?_
          show Steps p.tables e below (T380.setTop (mkF m 67 #[.val (.int p0), .val (.int v1), .val (.ref u3), .val (.int v18), .val (.ref ys3), .unset, .unset] [(.int (0 : Int32))])) _
          refine XS.ifNo X380.here hx rfl (hb hby at_67) rfl ((if0 _ _).trans (teq (by decide : (0 : Int32) = (0 : Int32))).2) ?_
          show Steps p.tables e below (T380.setTop (mkF m 70 #[.val (.int p0), .val (.int v1), .val (.ref u3), .val (.int v18), .val (.ref ys3), .unset, .unset] [])) _
          refine XS.aload X380.here hx rfl (hb hby at_70) rfl rfl ?_
          show Steps p.tables e below (T380.setTop (mkF m 72 #[.val (.int p0), .val (.int v1), .val (.ref u3), .val (.int v18), .val (.ref ys3), .unset, .unset] [(.ref ys3)])) _
          refine st381 _ ?_
          show Steps p.tables e below (T381.setTop (mkF m 74 #[.val (.int p0), .val (.int v1), .val (.ref u3), .val (.int v18), .val (.ref ys3), .unset, .unset] [(.ref b381), (.ref ys3)])) _
          refine st421.trans ?_
          show Steps p.tables e below (T421.setTop (mkF m 77 #[.val (.int p0), .val (.int v1), .val (.ref u3), .val (.int v18), .val (.ref ys3), .unset, .unset] [(.int (0 : Int32))])) _
          refine XS.ifYes X421.here hx rfl (pc0 := 77) (pc' := 84) rfl (hb hby at_77) rfl ((if0 _ _).trans (teq (by decide : (0 : Int32) = (0 : Int32))).1) (by decide) (by decide) ?_
          show Steps p.tables e below (T421.setTop (mkF m 84 #[.val (.int p0), .val (.int v1), .val (.ref u3), .val (.int v18), .val (.ref ys3), .unset, .unset] [])) _
          refine XS.iconst X421.here hx rfl (hb hby at_84) ?_
          show Steps p.tables e below (T421.setTop (mkF m 85 #[.val (.int p0), .val (.int v1), .val (.ref u3), .val (.int v18), .val (.ref ys3), .unset, .unset] [(.int (0 : Int32))])) _
          refine XS.istore X421.here hx rfl (hb hby at_85) rfl (l' := #[.val (.int p0), .val (.int v1), .val (.ref u3), .val (.int v18), .val (.ref ys3), .val (.int (0 : Int32)), .unset]) rfl ?_
          show Steps p.tables e below (T421.setTop (mkF m 87 #[.val (.int p0), .val (.int v1), .val (.ref u3), .val (.int v18), .val (.ref ys3), .val (.int (0 : Int32)), .unset] [])) _
          refine XS.aloadN X421.here hx rfl (hb hby at_87) rfl rfl ?_
          show Steps p.tables e below (T421.setTop (mkF m 88 #[.val (.int p0), .val (.int v1), .val (.ref u3), .val (.int v18), .val (.ref ys3), .val (.int (0 : Int32)), .unset] [(.ref u3)])) _
          refine st422.trans ?_
          show Steps p.tables e below (T422.setTop (mkF m 91 #[.val (.int p0), .val (.int v1), .val (.ref u3), .val (.int v18), .val (.ref ys3), .val (.int (0 : Int32)), .unset] [(.int (own_r4 u3 u0 u1))])) _
          rw [← hv19]
          show Steps p.tables e below (T422.setTop (mkF m 91 #[.val (.int p0), .val (.int v1), .val (.ref u3), .val (.int v18), .val (.ref ys3), .val (.int (0 : Int32)), .unset] [(.int v19)])) _
          refine XS.istore X422.here hx rfl (hb hby at_91) rfl (l' := #[.val (.int p0), .val (.int v1), .val (.ref u3), .val (.int v18), .val (.ref ys3), .val (.int (0 : Int32)), .val (.int v19)]) rfl ?_
          show Steps p.tables e below (T422.setTop (mkF m 93 #[.val (.int p0), .val (.int v1), .val (.ref u3), .val (.int v18), .val (.ref ys3), .val (.int (0 : Int32)), .val (.int v19)] [])) _
          refine XS.iload X422.here hx rfl (hb hby at_93) rfl ?_
          show Steps p.tables e below (T422.setTop (mkF m 95 #[.val (.int p0), .val (.int v1), .val (.ref u3), .val (.int v18), .val (.ref ys3), .val (.int (0 : Int32)), .val (.int v19)] [(.int v19)])) _
          refine XS.iloadN X422.here hx rfl (hb hby at_95) rfl ?_
          show Steps p.tables e below (T422.setTop (mkF m 96 #[.val (.int p0), .val (.int v1), .val (.ref u3), .val (.int v18), .val (.ref ys3), .val (.int (0 : Int32)), .val (.int v19)] [(.int v18), (.int v19)])) _
          refine st428 _ ?_
          exact kt
        refine own_goW hgo429 ?_
        have hz430 : v23 = 1 := own_leaf3 (p0 := p0) (u0 := u0) (u1 := u1) (u2 := u2) (u3 := u3) (ys0 := ys0) (ys1 := ys1) (ys2 := ys2) (ys3 := ys3) (zs0 := zs0) (zs1 := zs1) (zs2 := zs2) (zs3 := zs3) (ucs := ucs) hv1 hv18 hv19 hv22 hv23 hc5_2 hc17_8 hc29_13 hne01 hne02 hne03 hne10 hne12 hne13 hne20 hne21 hne23 hne30 hne31 hne32
        exact own_retZW X428 hx Bd.returns Bd.notSynchronized (hb hby at_111) hS381 (by rw [e428]; exact hk381) (by decide) (by decide) (Or.inr hz430) ⟨by rw [hz430], N428⟩
set_option maxRecDepth 65536 in
set_option maxHeartbeats 40000000 in
theorem comes_1 {Post : Tables → Env → Array Value → State → Outcome → State → Prop} (hpost : ∀ tb e args s v u, (limb_1_1.after args s (.returned v) u = true ∧ limb_1_2.after args s (.returned v) u = true ∧ True) → ReturnedEndW s (.returned v) u (Jvm.fieldLocs frame_1_writes args s ++ Jvm.arrayLocs frame_1_arrays args s ++ Jvm.staticLocs frame_1_statics s) 8 2112 → Post tb e args s (.returned v) u) :
    ArmFor flags0 classFile x code maxLocals ret World_1 tables_1 room_1 Calls_1 rest_1 Pre_1 Post := by
  intro l hfl _ _ p e ha hc hk s m args below hf hA hF happ hP
  obtain ⟨hcalls, hrest, hpre⟩ := hP
  obtain ⟨-, -, -, hnamed, -, -, -, hat⟩ := (Spec.applies_iff hf).mp happ
  obtain ⟨hg, hn⟩ := and_e (Cond.before_iff.mp (show (Jvm.Cond.and given_1 narrow_1).before args s = true from hpre))
  obtain ⟨gg1, gg2⟩ := and_e hg
  obtain ⟨gg3, gg4⟩ := and_e hn
  obtain ⟨gg5, gg6⟩ := and_e gg4
  obtain ⟨gg7, gg8⟩ := and_e gg6
  obtain ⟨gg9, gg10⟩ := and_e gg8
  obtain ⟨gg11, gg12⟩ := and_e gg10
  obtain ⟨gg13, gg14⟩ := and_e gg12
  obtain ⟨gg15, gg16⟩ := and_e gg14
  obtain ⟨gg17, gg18⟩ := and_e gg16
  obtain ⟨gg19, gg20⟩ := and_e gg18
  obtain ⟨gg21, gg22⟩ := and_e gg20
  obtain ⟨gg23, gg24⟩ := and_e gg22
  obtain ⟨gg25, gg26⟩ := and_e gg24
  obtain ⟨gg27, gg28⟩ := and_e gg26
  obtain ⟨gg29, gg30⟩ := and_e gg28
  obtain ⟨gg31, gg32⟩ := and_e gg30
  obtain ⟨gg33, gg34⟩ := and_e gg32
  obtain ⟨gg35, gg36⟩ := and_e gg34
  obtain ⟨gg37, gg38⟩ := and_e gg36
  obtain ⟨gg39, gg40⟩ := and_e gg38
  obtain ⟨gg41, gg42⟩ := and_e gg40
  obtain ⟨gg43, gg44⟩ := and_e gg42
  obtain ⟨gg45, gg46⟩ := and_e gg44
  obtain ⟨gg47, gg48⟩ := and_e gg46
  obtain ⟨gg49, gg50⟩ := and_e gg48
  obtain ⟨gg51, gg52⟩ := and_e gg50
  obtain ⟨gg53, gg54⟩ := and_e gg52
  obtain ⟨gg55, gg56⟩ := and_e gg54
  obtain ⟨w0, rfl⟩ : ∃ w0 : Value, args = #[w0] := by
    have hs : args.size = 1 := by simpa [Cond.value, given_1] using gg1
    obtain ⟨L⟩ := args
    match L, hs with
    | [w0], _ => exact ⟨w0, rfl⟩
  have hw := fun d (hd : d ∈ tables_1) => atoms_spec (ws := Jvm.Cond.code x code maxLocals ret :: tables_1) hat d (List.mem_cons_of_mem _ hd)
  have hfit : Fit s := fun {y c} hc i hi => by
    obtain ⟨ha, rfl⟩ := Array.getElem?_eq_some_iff.mp hc
    have q := List.all_eq_true.mp ((Array.all_eq_true_iff_forall_mem.mp hF) _ (Array.getElem_mem ha)) i (List.mem_range.mpr hi)
    simpa [Array.getElem?_eq_getElem hi] using q
  obtain ⟨hsets, hown0⟩ := atoms_of _ (rest_1_c_eq ▸ (show rest_1_c.before _ s = true from hrest))
  have hr0 := Cond.before_iff.mp hown0
  obtain ⟨i0, ei0⟩ := is_v gg2
  obtain rfl : w0 = (.int i0) := Option.some.inj ei0
  obtain ⟨u0, eu0⟩ := exa_v gg3
  obtain ⟨ys0, ey0, Fs0, Ey0⟩ := own_fldE eu0 gg5
  obtain ⟨zs0, ez0, Fv0⟩ := own_fldA ey0 gg9
  obtain ⟨u1, eu1⟩ := exa_v gg31
  obtain ⟨ys1, ey1, Fs1, Ey1⟩ := own_fldE eu1 gg49
  obtain ⟨zs1, ez1, Fv1⟩ := own_fldA ey1 gg53
  obtain ⟨u2, eu2⟩ := exa_v gg35
  obtain ⟨ys2, ey2, Fs2, Ey2⟩ := own_fldE eu2 gg37
  obtain ⟨zs2, ez2, Fv2⟩ := own_fldA ey2 gg41
  obtain ⟨u3, eu3⟩ := exa_v gg15
  obtain ⟨ys3, ey3, Fs3, Ey3⟩ := own_fldE eu3 gg17
  obtain ⟨zs3, ez3, Fv3⟩ := own_fldA ey3 gg21
  obtain ⟨ucs, eucs⟩ := is_v (Cond.before_iff.mp (hsets _ (List.mem_of_getElem? (i := 1) rfl)))
  obtain ⟨n, o, h1, h2, h3, _, L, rfl, ⟨rfl, N⟩, hq⟩ := rm0 l s _ hw tables_1 i0 u0 u1 u2 u3 ys0 ys1 ys2 ys3 zs0 zs1 zs2 zs3 ucs s.heap s.heap.size (Nat.le_refl _) (Sta.start eu0 (Or.inr ⟨(hw _ (List.mem_of_getElem? (i := 1) rfl)), (hw _ (List.mem_of_getElem? (i := 2) rfl))⟩)) (Exa.start eu0 gg3) (own_fldI eu0 gg29) Fs0 Ey0 (own_fldI ey0 gg7) Fv0 (own_aiStart ez0 gg9 gg11 gg13) (Sta.start eu1 (Or.inr ⟨(hw _ (List.mem_of_getElem? (i := 1) rfl)), (hw _ (List.mem_of_getElem? (i := 42) rfl))⟩)) (Exa.start eu1 gg31) (own_fldI eu1 gg33) Fs1 Ey1 (own_fldI ey1 gg51) Fv1 (own_aiStart ez1 gg53 gg55 gg56) (Sta.start eu2 (Or.inr ⟨(hw _ (List.mem_of_getElem? (i := 1) rfl)), (hw _ (List.mem_of_getElem? (i := 44) rfl))⟩)) (Exa.start eu2 gg35) (own_fldI eu2 gg47) Fs2 Ey2 (own_fldI ey2 gg39) Fv2 (own_aiStart ez2 gg41 gg43 gg45) (Sta.start eu3 (Or.inr ⟨(hw _ (List.mem_of_getElem? (i := 1) rfl)), (hw _ (List.mem_of_getElem? (i := 39) rfl))⟩)) (Exa.start eu3 gg15) (own_fldI eu3 gg27) Fs3 Ey3 (own_fldI ey3 gg19) Fv3 (own_aiStart ez3 gg21 gg23 gg25) (Sta.start eucs (Or.inl (hsets _ (List.mem_of_getElem? (i := 0) rfl)))) (own_neI eucs (Cond.before_iff.mp (hsets _ (List.mem_of_getElem? (i := 2) rfl)))) rfl rfl (hsets _ (List.mem_of_getElem? (i := 2) rfl)) (hcalls.1 (_, _) (List.mem_of_getElem? (i := 0) rfl)) (hcalls.1 (_, _) (List.mem_of_getElem? (i := 1) rfl)) p e ha hc hk s m _ below hf ((Spec.applies_iff_loose hf).mp happ).1 ⟨rfl, State.Warmed39.refl s, rfl, IB.start⟩ trivial
  refine ⟨n, _, h1, h2, h3, hpost _ _ _ _ _ _ ⟨Cond.after_iff.mpr rfl, Cond.after_iff.mpr (eq_i res_at (Term.int_eval (1)) rfl), trivial⟩ ⟨hq.1, hq.2.1, hq.2.2.1, (hq.2.2.2.sift fun y hy => Or.inr (N y hy)).mono (by decide) (by decide)⟩⟩
theorem main_1_1 : Claimed_1_1 := comes_1 fun _ _ _ _ _ _ h hF => ⟨h.1, hF⟩
theorem main_1_2 : Claimed_1_2 := comes_1 fun _ _ _ _ _ _ h hF => ⟨h.2.1, hF⟩
end Jvm.Pilot.@@N@@
namespace Jvm.Pilot.@@N@@
open Jvm Jvm.ClassFile Sem Op Lib Jvm.Free Jvm.Stand Jvm.Pilot.@@N@@.Jvm.D
/-! MADE BY PROGRAM (witnessworld.py) out of the Statement's table words and the real class files: 18 classes; the members and pool entries that the words name. The judged class is class 1, her method 1. -/
namespace start1
open Jvm.ClassFile
def u (s : String) : CpInfo := .utf8 (stringToUtf16 s)
/-- a pool by its gaps: so many unusable entries, then the entry; so many at the end -/
def gap : Nat → List CpInfo → List CpInfo
  | 0, r => r
  | n + 1, r => .unusable :: gap n r
def poolList (es : List (Nat × CpInfo)) (last : Nat) : List CpInfo := es.foldr (fun e r => gap e.1 (e.2 :: r)) (gap last [])
def pool (es : List (Nat × CpInfo)) (last : Nat) : Array CpInfo := ⟨poolList es last⟩
def fileOf (pool : Array CpInfo) (this : Nat) (attrs : Array Attribute := #[]) (ms : Array MethodInfo := #[]) (fl : Nat := 33) (sup : Nat := 0) (ifs : Array Nat := #[]) (fds : Array FieldInfo := #[]) : ClassFile where
  minorVersion := 0
  majorVersion := 65
  constantPool := pool
  accessFlags := fl
  thisClass := this
  superClass := sup
  interfaces := ifs
  fields := fds
  methods := ms
  attributes := attrs
def plain (name : String) (sup : Option ClassId) : Class where
  name := name
  kind := .ordinary
  loader := none
  accessFlags := 33
  super := sup
  interfaces := #[]
  cf := none
  fields := #[]
  methods := #[]
  instanceTypes := #[]
  staticTypes := #[]
  resolved := #[]
  callSites := []
  init := .initialized
  statics := none
  mirror := none

def pool0 : Array CpInfo := pool [(5, u "<init>"), (0, u "()V"), (1, .class_ 10), (1, u "java/lang/Object")] 113

def k0m0 : Method := { name := "<init>", desc := "()V", sig := { parameters := [], returnType := none }, accessFlags := 1, code := none }
/-- java/lang/Object -/
def k0 : Class := { plain "java/lang/Object" none with
  accessFlags := 33
  interfaces := #[]
  cf := some (fileOf pool0 8 #[] #[{ accessFlags := 1, nameIndex := 5, descriptorIndex := 6, attributes := #[] }] 33 0 #[] #[])
  fields := #[]
  methods := #[k0m0]
  instanceTypes := #[]
  staticTypes := #[]
  resolved := Array.replicate 124 none
  statics := none }

def pool1 : Array CpInfo := pool [(2, .class_ 4), (1, u "java/lang/Object"), (0, u "<init>"), (0, u "()V"), (0, .fieldref 8 9), (0, .class_ 10), (0, .nameAndType 11 12), (0, u "com/example/muset/muset/sparql/Arithmetic$Operator"), (0, u "ADD"), (0, u "Lcom/example/muset/muset/sparql/Arithmetic$Operator;"), (0, .fieldref 8 14), (0, .nameAndType 15 12), (0, u "SUBTRACT"), (0, .fieldref 8 17), (0, .nameAndType 18 12), (0, u "MULTIPLY"), (0, .fieldref 8 20), (0, .nameAndType 21 12), (0, u "DIVIDE"), (0, .methodref 8 23), (0, .nameAndType 24 25), (0, u "symbol"), (0, u "()Ljava/lang/String;"), (0, .string 27), (0, u "+"), (0, .methodref 29 30), (0, .class_ 31), (0, .nameAndType 32 33), (0, u "java/lang/String"), (0, u "equals"), (0, u "(Ljava/lang/Object;)Z"), (0, .string 35), (0, u "-"), (0, .methodref 8 37), (0, .nameAndType 38 39), (0, u "isAdditive"), (0, u "()Z"), (0, .class_ 41), (0, u "com/example/muset/muset/sparql/OperatorIsAdditivePinLaw"), (2, u "law"), (0, u "(I)Z")] 7

def k1m0 : Method := { name := "<init>", desc := "()V", sig := { parameters := [], returnType := none }, accessFlags := 2, code := none }
def k1c1 : Code := { maxStack := 2, maxLocals := 7, code := code, exceptionTable := #[], attributes := #[] }
def k1m1 : Method := { name := "law", desc := "(I)Z", sig := { parameters := [.int], returnType := some .boolean }, accessFlags := 9, code := some k1c1 }
/-- com/example/muset/muset/sparql/OperatorIsAdditivePinLaw -/
def k1 : Class := { plain "com/example/muset/muset/sparql/OperatorIsAdditivePinLaw" (some 0) with
  accessFlags := 49
  interfaces := #[]
  cf := some (fileOf pool1 40 #[] #[{ accessFlags := 2, nameIndex := 5, descriptorIndex := 6, attributes := #[] }, { accessFlags := 9, nameIndex := 44, descriptorIndex := 45, attributes := #[] }] 49 2 #[] #[])
  fields := #[]
  methods := #[k1m0, k1m1]
  instanceTypes := #[]
  staticTypes := #[]
  resolved := Array.replicate 53 none
  statics := none }

def pool2 : Array CpInfo := pool [(1, .class_ 2), (0, u "java/lang/constant/Constable"), (0, .class_ 4), (0, u "java/lang/Object")] 6

/-- java/lang/constant/Constable -/
def k2 : Class := { plain "java/lang/constant/Constable" (some 0) with
  accessFlags := 1537
  interfaces := #[]
  cf := some (fileOf pool2 1 #[] #[] 1537 3 #[] #[])
  fields := #[]
  methods := #[]
  instanceTypes := #[]
  staticTypes := #[]
  resolved := Array.replicate 11 none
  statics := none }

def pool3 : Array CpInfo := pool [(1, .class_ 2), (0, u "java/lang/Comparable"), (0, .class_ 4), (0, u "java/lang/Object")] 7

/-- java/lang/Comparable -/
def k3 : Class := { plain "java/lang/Comparable" (some 0) with
  accessFlags := 1537
  interfaces := #[]
  cf := some (fileOf pool3 1 #[] #[] 1537 3 #[] #[])
  fields := #[]
  methods := #[]
  instanceTypes := #[]
  staticTypes := #[]
  resolved := Array.replicate 12 none
  statics := none }

def pool4 : Array CpInfo := pool [(1, .class_ 2), (0, u "java/io/Serializable"), (0, .class_ 4), (0, u "java/lang/Object")] 2

/-- java/io/Serializable -/
def k4 : Class := { plain "java/io/Serializable" (some 0) with
  accessFlags := 1537
  interfaces := #[]
  cf := some (fileOf pool4 1 #[] #[] 1537 3 #[] #[])
  fields := #[]
  methods := #[]
  instanceTypes := #[]
  staticTypes := #[]
  resolved := Array.replicate 7 none
  statics := none }

def pool5 : Array CpInfo := pool [(2, .class_ 4), (1, u "java/lang/Enum"), (0, u "name"), (0, u "Ljava/lang/String;"), (2, u "ordinal"), (0, u "I"), (1, .class_ 14), (1, u "java/lang/Object"), (4, u "hash"), (86, .class_ 108), (1, u "java/lang/Enum$EnumDesc"), (2, .class_ 112), (0, u "java/lang/constant/Constable"), (0, .class_ 114), (0, u "java/lang/Comparable"), (0, .class_ 116), (0, u "java/io/Serializable")] 87

/-- java/lang/Enum -/
def k5 : Class := { plain "java/lang/Enum" (some 0) with
  accessFlags := 1057
  interfaces := #[2, 3, 4]
  cf := some (fileOf pool5 2 #[.nestMembers #[106]] #[] 1057 12 #[111, 113, 115] #[{ accessFlags := 18, nameIndex := 5, descriptorIndex := 6, attributes := #[] }, { accessFlags := 18, nameIndex := 9, descriptorIndex := 10, attributes := #[] }, { accessFlags := 2, nameIndex := 19, descriptorIndex := 10, attributes := #[] }])
  fields := #[{ name := "name", type := (.object "java/lang/String"), accessFlags := 18, slot := 0, constantValue := 0 }, { name := "ordinal", type := .int, accessFlags := 18, slot := 1, constantValue := 0 }, { name := "hash", type := .int, accessFlags := 2, slot := 2, constantValue := 0 }]
  methods := #[]
  instanceTypes := #[(.object "java/lang/String"), .int, .int]
  staticTypes := #[]
  resolved := Array.replicate 204 none
  statics := none }

def pool6 : Array CpInfo := pool [(1, .class_ 2), (0, u "com/example/muset/muset/sparql/Arithmetic$Operator"), (0, .fieldref 1 4), (0, .nameAndType 5 6), (0, u "ADD"), (0, u "Lcom/example/muset/muset/sparql/Arithmetic$Operator;"), (0, .fieldref 1 8), (0, .nameAndType 9 6), (0, u "SUBTRACT"), (2, u "MULTIPLY"), (2, u "DIVIDE"), (2, u "$VALUES"), (0, u "[Lcom/example/muset/muset/sparql/Arithmetic$Operator;"), (6, .class_ 28), (1, u "java/lang/Enum"), (6, .fieldref 1 36), (0, .nameAndType 37 38), (0, u "symbol"), (0, u "Ljava/lang/String;"), (26, u "()Ljava/lang/String;"), (0, u "isAdditive"), (0, u "()Z"), (7, .class_ 76), (0, u "com/example/muset/muset/sparql/Arithmetic")] 2

def k6c0 : Code := { maxStack := 1, maxLocals := 1, code := prog_80_method_4_code, exceptionTable := #[], attributes := #[] }
def k6m0 : Method := { name := "symbol", desc := "()Ljava/lang/String;", sig := { parameters := [], returnType := some (.object "java/lang/String") }, accessFlags := 1, code := some k6c0 }
def k6c1 : Code := { maxStack := 2, maxLocals := 1, code := prog_80_method_5_code, exceptionTable := #[], attributes := #[] }
def k6m1 : Method := { name := "isAdditive", desc := "()Z", sig := { parameters := [], returnType := some .boolean }, accessFlags := 1, code := some k6c1 }
/-- com/example/muset/muset/sparql/Arithmetic$Operator -/
def k6 : Class := { plain "com/example/muset/muset/sparql/Arithmetic$Operator" (some 5) with
  accessFlags := 16433
  interfaces := #[]
  cf := some (fileOf pool6 1 #[.nestHost 75] #[{ accessFlags := 1, nameIndex := 37, descriptorIndex := 65, attributes := #[] }, { accessFlags := 1, nameIndex := 66, descriptorIndex := 67, attributes := #[] }] 16433 26 #[] #[{ accessFlags := 16409, nameIndex := 5, descriptorIndex := 6, attributes := #[] }, { accessFlags := 16409, nameIndex := 9, descriptorIndex := 6, attributes := #[] }, { accessFlags := 16409, nameIndex := 12, descriptorIndex := 6, attributes := #[] }, { accessFlags := 16409, nameIndex := 15, descriptorIndex := 6, attributes := #[] }, { accessFlags := 18, nameIndex := 37, descriptorIndex := 38, attributes := #[] }, { accessFlags := 4122, nameIndex := 18, descriptorIndex := 19, attributes := #[] }])
  fields := #[{ name := "ADD", type := (.object "com/example/muset/muset/sparql/Arithmetic$Operator"), accessFlags := 16409, slot := 0, constantValue := 0 }, { name := "SUBTRACT", type := (.object "com/example/muset/muset/sparql/Arithmetic$Operator"), accessFlags := 16409, slot := 1, constantValue := 0 }, { name := "MULTIPLY", type := (.object "com/example/muset/muset/sparql/Arithmetic$Operator"), accessFlags := 16409, slot := 2, constantValue := 0 }, { name := "DIVIDE", type := (.object "com/example/muset/muset/sparql/Arithmetic$Operator"), accessFlags := 16409, slot := 3, constantValue := 0 }, { name := "symbol", type := (.object "java/lang/String"), accessFlags := 18, slot := 3, constantValue := 0 }, { name := "$VALUES", type := (.array (.object "com/example/muset/muset/sparql/Arithmetic$Operator")), accessFlags := 4122, slot := 4, constantValue := 0 }]
  methods := #[k6m0, k6m1]
  instanceTypes := #[(.object "java/lang/String"), .int, .int, (.object "java/lang/String")]
  staticTypes := #[(.object "com/example/muset/muset/sparql/Arithmetic$Operator"), (.object "com/example/muset/muset/sparql/Arithmetic$Operator"), (.object "com/example/muset/muset/sparql/Arithmetic$Operator"), (.object "com/example/muset/muset/sparql/Arithmetic$Operator"), (.array (.object "com/example/muset/muset/sparql/Arithmetic$Operator"))]
  resolved := Array.replicate 79 none
  statics := some 0 }

def pool7 : Array CpInfo := pool [(2, .class_ 4), (1, u "java/lang/CharSequence"), (42, .class_ 48), (0, u "java/lang/CharSequence$1CodePointIterator"), (10, .class_ 60), (0, u "java/lang/CharSequence$1CharIterator"), (5, .class_ 67), (0, u "java/lang/Object")] 63

/-- java/lang/CharSequence -/
def k7 : Class := { plain "java/lang/CharSequence" (some 0) with
  accessFlags := 1537
  interfaces := #[]
  cf := some (fileOf pool7 2 #[.nestMembers #[47, 59]] #[] 1537 66 #[] #[])
  fields := #[]
  methods := #[]
  instanceTypes := #[]
  staticTypes := #[]
  resolved := Array.replicate 131 none
  statics := none }

def pool8 : Array CpInfo := pool [(1, .class_ 2), (0, u "java/lang/constant/ConstantDesc"), (0, .class_ 4), (0, u "java/lang/Object")] 32

/-- java/lang/constant/ConstantDesc -/
def k8 : Class := { plain "java/lang/constant/ConstantDesc" (some 0) with
  accessFlags := 1537
  interfaces := #[]
  cf := some (fileOf pool8 1 #[] #[] 1537 3 #[] #[])
  fields := #[]
  methods := #[]
  instanceTypes := #[]
  staticTypes := #[]
  resolved := Array.replicate 37 none
  statics := none }

def pool9 : Array CpInfo := pool [(2, .class_ 4), (1, u "java/lang/Object"), (0, u "<init>"), (0, u "()V"), (2, .fieldref 10 11), (0, .class_ 12), (0, .nameAndType 13 14), (0, u "java/lang/String"), (0, u "value"), (0, u "[B"), (0, .fieldref 10 16), (0, .nameAndType 17 18), (0, u "coder"), (0, u "B"), (2, u "hash"), (0, u "I"), (2, u "hashIsZero"), (0, u "Z"), (11, .fieldref 10 39), (0, .nameAndType 40 26), (0, u "COMPACT_STRINGS"), (66, .class_ 109), (1, u "java/lang/StringLatin1"), (431, .methodref 107 542), (0, .nameAndType 543 544), (0, u "equals"), (0, u "([B[B)Z"), (28, u "(Ljava/lang/Object;)Z"), (1, .class_ 576), (0, u "java/lang/CharSequence"), (22, u "CASE_INSENSITIVE_ORDER"), (0, u "Ljava/util/Comparator;"), (500, u "serialPersistentFields"), (0, u "[Ljava/io/ObjectStreamField;"), (0, .class_ 1104), (0, u "java/lang/String$CaseInsensitiveComparator"), (1, .class_ 1107), (0, u "java/io/Serializable"), (0, .class_ 1109), (0, u "java/lang/Comparable"), (0, .class_ 1111), (0, u "java/lang/constant/Constable"), (0, .class_ 1113), (0, u "java/lang/constant/ConstantDesc"), (2, u "serialVersionUID"), (0, u "J"), (3, u "REPL"), (0, u "C"), (2, u "LATIN1"), (1, u "UTF16")] 323

def k9m0 : Method := { name := "<init>", desc := "()V", sig := { parameters := [], returnType := none }, accessFlags := 1, code := none }
def k9c1 : Code := { maxStack := 2, maxLocals := 3, code := jdk_42_method_66_code, exceptionTable := #[], attributes := #[] }
def k9m1 : Method := { name := "equals", desc := "(Ljava/lang/Object;)Z", sig := { parameters := [(.object "java/lang/Object")], returnType := some .boolean }, accessFlags := 1, code := some k9c1 }
/-- java/lang/String -/
def k9 : Class := { plain "java/lang/String" (some 0) with
  accessFlags := 49
  interfaces := #[4, 3, 7, 2, 8]
  cf := some (fileOf pool9 10 #[.nestMembers #[1103]] #[{ accessFlags := 1, nameIndex := 5, descriptorIndex := 6, attributes := #[] }, { accessFlags := 1, nameIndex := 543, descriptorIndex := 573, attributes := #[] }] 49 2 #[1106, 1108, 575, 1110, 1112] #[{ accessFlags := 18, nameIndex := 13, descriptorIndex := 14, attributes := #[] }, { accessFlags := 18, nameIndex := 17, descriptorIndex := 18, attributes := #[] }, { accessFlags := 2, nameIndex := 21, descriptorIndex := 22, attributes := #[] }, { accessFlags := 2, nameIndex := 25, descriptorIndex := 26, attributes := #[] }, { accessFlags := 26, nameIndex := 1116, descriptorIndex := 1117, attributes := #[] }, { accessFlags := 24, nameIndex := 40, descriptorIndex := 26, attributes := #[] }, { accessFlags := 26, nameIndex := 1101, descriptorIndex := 1102, attributes := #[] }, { accessFlags := 26, nameIndex := 1121, descriptorIndex := 1122, attributes := #[] }, { accessFlags := 25, nameIndex := 599, descriptorIndex := 600, attributes := #[] }, { accessFlags := 24, nameIndex := 1125, descriptorIndex := 18, attributes := #[] }, { accessFlags := 24, nameIndex := 1127, descriptorIndex := 18, attributes := #[] }])
  fields := #[{ name := "value", type := (.array .byte), accessFlags := 18, slot := 0, constantValue := 0 }, { name := "coder", type := .byte, accessFlags := 18, slot := 1, constantValue := 0 }, { name := "hash", type := .int, accessFlags := 2, slot := 2, constantValue := 0 }, { name := "hashIsZero", type := .boolean, accessFlags := 2, slot := 3, constantValue := 0 }, { name := "serialVersionUID", type := .long, accessFlags := 26, slot := 0, constantValue := 0 }, { name := "COMPACT_STRINGS", type := .boolean, accessFlags := 24, slot := 1, constantValue := 0 }, { name := "serialPersistentFields", type := (.array (.object "java/io/ObjectStreamField")), accessFlags := 26, slot := 2, constantValue := 0 }, { name := "REPL", type := .char, accessFlags := 26, slot := 3, constantValue := 0 }, { name := "CASE_INSENSITIVE_ORDER", type := (.object "java/util/Comparator"), accessFlags := 25, slot := 4, constantValue := 0 }, { name := "LATIN1", type := .byte, accessFlags := 24, slot := 5, constantValue := 0 }, { name := "UTF16", type := .byte, accessFlags := 24, slot := 6, constantValue := 0 }]
  methods := #[k9m0, k9m1]
  instanceTypes := #[(.array .byte), .byte, .int, .boolean]
  staticTypes := #[.long, .boolean, (.array (.object "java/io/ObjectStreamField")), .char, (.object "java/util/Comparator"), .byte, .byte]
  resolved := Array.replicate 1451 none
  statics := some 1 }

def pool10 : Array CpInfo := pool [(4, .class_ 6), (1, u "java/lang/Object"), (0, u "<init>"), (0, u "()V"), (5, .class_ 16), (1, u "java/lang/StringLatin1"), (104, u "$assertionsDisabled"), (0, u "Z"), (98, .class_ 223), (1, u "java/lang/StringLatin1$LinesSpliterator"), (57, u "equals"), (0, u "([B[B)Z"), (107, .class_ 391), (0, u "java/lang/StringLatin1$CharsSpliterator")] 3

def k10m0 : Method := { name := "<init>", desc := "()V", sig := { parameters := [], returnType := none }, accessFlags := 0, code := none }
def k10c1 : Code := { maxStack := 3, maxLocals := 3, code := jdk_43_method_13_code, exceptionTable := #[], attributes := #[] }
def k10m1 : Method := { name := "equals", desc := "([B[B)Z", sig := { parameters := [(.array .byte), (.array .byte)], returnType := some .boolean }, accessFlags := 9, code := some k10c1 }
/-- java/lang/StringLatin1 -/
def k10 : Class := { plain "java/lang/StringLatin1" (some 0) with
  accessFlags := 48
  interfaces := #[]
  cf := some (fileOf pool10 14 #[.nestMembers #[390, 221]] #[{ accessFlags := 0, nameIndex := 7, descriptorIndex := 8, attributes := #[] }, { accessFlags := 9, nameIndex := 281, descriptorIndex := 282, attributes := #[] }] 48 4 #[] #[{ accessFlags := 4120, nameIndex := 121, descriptorIndex := 122, attributes := #[] }])
  fields := #[{ name := "$assertionsDisabled", type := .boolean, accessFlags := 4120, slot := 0, constantValue := 0 }]
  methods := #[k10m0, k10m1]
  instanceTypes := #[]
  staticTypes := #[.boolean]
  resolved := Array.replicate 395 none
  statics := none }

def pool11 : Array CpInfo := pool [(2, .class_ 4), (1, u "java/lang/Object"), (0, u "<init>"), (0, u "()V"), (17, .class_ 26), (1, u "jdk/internal/util/Preconditions"), (28, .class_ 56), (0, u "jdk/internal/util/Preconditions$4"), (57, .class_ 115), (0, u "jdk/internal/util/Preconditions$1"), (7, u "SIOOBE_FORMATTER"), (0, u "Ljava/util/function/BiFunction;"), (0, .class_ 126), (0, u "jdk/internal/util/Preconditions$2"), (3, u "AIOOBE_FORMATTER"), (0, .class_ 132), (0, u "jdk/internal/util/Preconditions$3"), (3, u "IOOBE_FORMATTER")] 57

def k11m0 : Method := { name := "<init>", desc := "()V", sig := { parameters := [], returnType := none }, accessFlags := 1, code := none }
/-- jdk/internal/util/Preconditions -/
def k11 : Class := { plain "jdk/internal/util/Preconditions" (some 0) with
  accessFlags := 33
  interfaces := #[]
  cf := some (fileOf pool11 24 #[.nestMembers #[55, 131, 125, 114]] #[{ accessFlags := 1, nameIndex := 5, descriptorIndex := 6, attributes := #[] }] 33 2 #[] #[{ accessFlags := 25, nameIndex := 123, descriptorIndex := 124, attributes := #[] }, { accessFlags := 25, nameIndex := 130, descriptorIndex := 124, attributes := #[] }, { accessFlags := 25, nameIndex := 136, descriptorIndex := 124, attributes := #[] }])
  fields := #[{ name := "SIOOBE_FORMATTER", type := (.object "java/util/function/BiFunction"), accessFlags := 25, slot := 0, constantValue := 0 }, { name := "AIOOBE_FORMATTER", type := (.object "java/util/function/BiFunction"), accessFlags := 25, slot := 1, constantValue := 0 }, { name := "IOOBE_FORMATTER", type := (.object "java/util/function/BiFunction"), accessFlags := 25, slot := 2, constantValue := 0 }]
  methods := #[k11m0]
  instanceTypes := #[]
  staticTypes := #[(.object "java/util/function/BiFunction"), (.object "java/util/function/BiFunction"), (.object "java/util/function/BiFunction")]
  resolved := Array.replicate 194 none
  statics := some 2 }

def pool12 : Array CpInfo := pool [(9, u "<init>"), (6, .class_ 18), (1, u "java/lang/Object"), (0, u "()V"), (1, .class_ 23), (1, u "jdk/internal/util/ArraysSupport"), (0, u "LOG2_ARRAY_LONG_INDEX_SCALE"), (0, u "I"), (2, u "U"), (0, u "Ljdk/internal/misc/Unsafe;"), (8, u "BIG_ENDIAN"), (0, u "Z"), (8, u "LOG2_BYTE_BIT_SIZE"), (4, u "LOG2_ARRAY_INT_INDEX_SCALE"), (54, u "JLA"), (0, u "Ljdk/internal/access/JavaLangAccess;"), (11, u "LOG2_ARRAY_BOOLEAN_INDEX_SCALE"), (9, u "LOG2_ARRAY_BYTE_INDEX_SCALE"), (5, u "LOG2_ARRAY_CHAR_INDEX_SCALE"), (5, u "LOG2_ARRAY_SHORT_INDEX_SCALE"), (18, u "LOG2_ARRAY_FLOAT_INDEX_SCALE"), (24, u "LOG2_ARRAY_DOUBLE_INDEX_SCALE"), (89, u "T_BOOLEAN"), (2, u "T_CHAR"), (1, u "T_FLOAT"), (1, u "T_DOUBLE"), (1, u "T_BYTE"), (1, u "T_SHORT"), (1, u "T_INT"), (1, u "T_LONG"), (1, u "SOFT_MAX_ARRAY_LENGTH")] 83

def k12m0 : Method := { name := "<init>", desc := "()V", sig := { parameters := [], returnType := none }, accessFlags := 2, code := none }
/-- jdk/internal/util/ArraysSupport -/
def k12 : Class := { plain "jdk/internal/util/ArraysSupport" (some 0) with
  accessFlags := 33
  interfaces := #[]
  cf := some (fileOf pool12 21 #[] #[{ accessFlags := 2, nameIndex := 9, descriptorIndex := 19, attributes := #[] }] 33 16 #[] #[{ accessFlags := 24, nameIndex := 28, descriptorIndex := 29, attributes := #[] }, { accessFlags := 26, nameIndex := 38, descriptorIndex := 39, attributes := #[] }, { accessFlags := 25, nameIndex := 121, descriptorIndex := 25, attributes := #[] }, { accessFlags := 25, nameIndex := 131, descriptorIndex := 25, attributes := #[] }, { accessFlags := 25, nameIndex := 137, descriptorIndex := 25, attributes := #[] }, { accessFlags := 25, nameIndex := 143, descriptorIndex := 25, attributes := #[] }, { accessFlags := 25, nameIndex := 53, descriptorIndex := 25, attributes := #[] }, { accessFlags := 25, nameIndex := 24, descriptorIndex := 25, attributes := #[] }, { accessFlags := 25, nameIndex := 162, descriptorIndex := 25, attributes := #[] }, { accessFlags := 25, nameIndex := 187, descriptorIndex := 25, attributes := #[] }, { accessFlags := 26, nameIndex := 48, descriptorIndex := 25, attributes := #[] }, { accessFlags := 25, nameIndex := 277, descriptorIndex := 25, attributes := #[] }, { accessFlags := 25, nameIndex := 280, descriptorIndex := 25, attributes := #[] }, { accessFlags := 25, nameIndex := 282, descriptorIndex := 25, attributes := #[] }, { accessFlags := 25, nameIndex := 284, descriptorIndex := 25, attributes := #[] }, { accessFlags := 25, nameIndex := 286, descriptorIndex := 25, attributes := #[] }, { accessFlags := 25, nameIndex := 288, descriptorIndex := 25, attributes := #[] }, { accessFlags := 25, nameIndex := 290, descriptorIndex := 25, attributes := #[] }, { accessFlags := 25, nameIndex := 292, descriptorIndex := 25, attributes := #[] }, { accessFlags := 26, nameIndex := 108, descriptorIndex := 109, attributes := #[] }, { accessFlags := 25, nameIndex := 294, descriptorIndex := 25, attributes := #[] }])
  fields := #[{ name := "U", type := (.object "jdk/internal/misc/Unsafe"), accessFlags := 24, slot := 0, constantValue := 0 }, { name := "BIG_ENDIAN", type := .boolean, accessFlags := 26, slot := 1, constantValue := 0 }, { name := "LOG2_ARRAY_BOOLEAN_INDEX_SCALE", type := .int, accessFlags := 25, slot := 2, constantValue := 0 }, { name := "LOG2_ARRAY_BYTE_INDEX_SCALE", type := .int, accessFlags := 25, slot := 3, constantValue := 0 }, { name := "LOG2_ARRAY_CHAR_INDEX_SCALE", type := .int, accessFlags := 25, slot := 4, constantValue := 0 }, { name := "LOG2_ARRAY_SHORT_INDEX_SCALE", type := .int, accessFlags := 25, slot := 5, constantValue := 0 }, { name := "LOG2_ARRAY_INT_INDEX_SCALE", type := .int, accessFlags := 25, slot := 6, constantValue := 0 }, { name := "LOG2_ARRAY_LONG_INDEX_SCALE", type := .int, accessFlags := 25, slot := 7, constantValue := 0 }, { name := "LOG2_ARRAY_FLOAT_INDEX_SCALE", type := .int, accessFlags := 25, slot := 8, constantValue := 0 }, { name := "LOG2_ARRAY_DOUBLE_INDEX_SCALE", type := .int, accessFlags := 25, slot := 9, constantValue := 0 }, { name := "LOG2_BYTE_BIT_SIZE", type := .int, accessFlags := 26, slot := 10, constantValue := 0 }, { name := "T_BOOLEAN", type := .int, accessFlags := 25, slot := 11, constantValue := 0 }, { name := "T_CHAR", type := .int, accessFlags := 25, slot := 12, constantValue := 0 }, { name := "T_FLOAT", type := .int, accessFlags := 25, slot := 13, constantValue := 0 }, { name := "T_DOUBLE", type := .int, accessFlags := 25, slot := 14, constantValue := 0 }, { name := "T_BYTE", type := .int, accessFlags := 25, slot := 15, constantValue := 0 }, { name := "T_SHORT", type := .int, accessFlags := 25, slot := 16, constantValue := 0 }, { name := "T_INT", type := .int, accessFlags := 25, slot := 17, constantValue := 0 }, { name := "T_LONG", type := .int, accessFlags := 25, slot := 18, constantValue := 0 }, { name := "JLA", type := (.object "jdk/internal/access/JavaLangAccess"), accessFlags := 26, slot := 19, constantValue := 0 }, { name := "SOFT_MAX_ARRAY_LENGTH", type := .int, accessFlags := 25, slot := 20, constantValue := 0 }]
  methods := #[k12m0]
  instanceTypes := #[]
  staticTypes := #[(.object "jdk/internal/misc/Unsafe"), .boolean, .int, .int, .int, .int, .int, .int, .int, .int, .int, .int, .int, .int, .int, .int, .int, .int, .int, (.object "jdk/internal/access/JavaLangAccess"), .int]
  resolved := Array.replicate 378 none
  statics := none }

def pool13 : Array CpInfo := pool [(1, u "java/lang/Cloneable"), (0, .class_ 1), (0, u "java/lang/Object"), (0, .class_ 3)] 3

/-- java/lang/Cloneable -/
def k13 : Class := { plain "java/lang/Cloneable" (some 0) with
  accessFlags := 1537
  interfaces := #[]
  cf := some (fileOf pool13 2 #[] #[] 1537 4 #[] #[])
  fields := #[]
  methods := #[]
  instanceTypes := #[]
  staticTypes := #[]
  resolved := Array.replicate 8 none
  statics := none }

/-- the primitive byte -/
def k14 : Class := { plain "byte" none with kind := .primitive 'B', accessFlags := 0x411 }
/-- [B -/
def k15 : Class := { plain "[B" (some 0) with kind := .array 14 .byte, interfaces := #[13, 4], accessFlags := 1041 }

/-- the primitive int -/
def k16 : Class := { plain "int" none with kind := .primitive 'I', accessFlags := 0x411 }
/-- [I -/
def k17 : Class := { plain "[I" (some 0) with kind := .array 16 .int, interfaces := #[13, 4], accessFlags := 1041 }

def heap : Heap := #[{ cls := 6, slots := #[.ref 11, .ref 12, .ref 13, .ref 14, .null], vm := .statics 6 },
  { cls := 9, slots := #[.long 0, .int 1, .null, .int 0, .null, .int 0, .int 0], vm := .statics 9 },
  { cls := 11, slots := #[.null, .null, .null], vm := .statics 11 },
  { cls := 15, slots := #[.int 43], vm := .none },
  { cls := 15, slots := #[.int 45], vm := .none },
  { cls := 15, slots := #[.int 42], vm := .none },
  { cls := 15, slots := #[.int 47], vm := .none },
  { cls := 9, slots := #[.ref 3, .int 0, .int 0, .int 0], vm := .none },
  { cls := 9, slots := #[.ref 4, .int 0, .int 0, .int 0], vm := .none },
  { cls := 9, slots := #[.ref 5, .int 0, .int 0, .int 0], vm := .none },
  { cls := 9, slots := #[.ref 6, .int 0, .int 0, .int 0], vm := .none },
  { cls := 6, slots := #[.null, .int 0, .int 0, .ref 7], vm := .none },
  { cls := 6, slots := #[.null, .int 1, .int 0, .ref 8], vm := .none },
  { cls := 6, slots := #[.null, .int 2, .int 0, .ref 9], vm := .none },
  { cls := 6, slots := #[.null, .int 3, .int 0, .ref 10], vm := .none }]
def classes : Array Class := #[k0, k1, k2, k3, k4, k5, k6, k7, k8, k9, k10, k11, k12, k13, k14, k15, k16, k17]
def interned : List (Array UInt16 × Addr) := []
def slotsUsed : Nat := 51
def theMethod : MethodId := ⟨1, 1⟩
def args0 : Array Value := #[.int 5]
def aboutOver (below : List Frame) : State where
  vm := { classes := classes, interned := interned.toArray }
  heap := heap
  slotsUsed := slotsUsed
  threads := #[{ frames := .invoking theMethod args0 :: below }]
def below0 : List Frame := [.native { method := ⟨0, 0⟩, args := #[] }]
def about1 : State := aboutOver below0
def p0 : Program := .bare "" "" ""
def e0 : Env := launch0.env 0 0 0
theorem w_frames : about1.frames = Frame.invoking theMethod args0 :: below0 := rfl
set_option maxRecDepth 65536 in
theorem w_args : argsFit about1.vm theMethod args0 = true := by decide +kernel
set_option maxRecDepth 65536 in
theorem w_heap : heapFits about1 = true := by decide +kernel
set_option maxRecDepth 65536 in
theorem w_runnable : about1.curStatus? = some .runnable := by decide +kernel
set_option maxRecDepth 65536 in
theorem w_alone : about1.alone = true := by decide +kernel
set_option maxRecDepth 65536 in
theorem w_named : about1.methodNamed? x = some theMethod := by decide +kernel
set_option maxRecDepth 65536 in
theorem w_hears : about1.hears theMethod below0 = true := by decide +kernel
set_option maxRecDepth 65536 in
theorem w_ripe : about1.ripe theMethod args0 below0 = true := by decide +kernel
theorem w_running : about1.status = .running := rfl
set_option maxRecDepth 65536 in
theorem w_room : about1.hasRoom e0.platform room_1 = true :=
  launch0.hasRoom_least _ room_1 (by decide +kernel) (by decide +kernel) (by decide +kernel) (by decide +kernel) (by decide +kernel) (by decide +kernel)
theorem allAtoms_all (ts : List Jvm.Cond) (a : Array Jvm.Value) (st : Jvm.State) : (allAtoms ts).before a st = ts.all (fun c => c.before a st) := by
  induction ts with
  | nil => rfl
  | cons c t ih =>
    show (Jvm.Cond.and c (allAtoms t)).before a st = _
    rw [Jvm.Cond.before_and, ih, List.all_cons]
def words1 : List Jvm.Cond := Jvm.Cond.code x code maxLocals ret :: tables_1
/-- a 'code' word, met by the world's own term for the bytes: nothing is compared byte by byte -/
theorem code_word {y : MethodName} {bytes : ByteArray} {mx : Nat} {rt : Option FieldType} {a : Array Value} {s : State} {m : MethodId} {meth : Method} {c : Code} (h1 : s.methodNamed? y = some m) (h2 : s.vm.method? m = some meth) (h3 : meth.code = some c) (h4 : c.code = bytes)
    (h5 : (c.maxLocals == mx && c.exceptionTable.isEmpty && decide (c.maxStack ≤ mostOperands) && decide (meth.sig.returnType = rt) && !meth.locks && decide (parseMethodDescriptor y.desc = some meth.sig)) = true) : (Jvm.Cond.code y bytes mx rt).before a s = true := by
  simp only [Bool.and_eq_true, beq_iff_eq, Bool.not_eq_true', decide_eq_true_eq] at h5
  obtain ⟨⟨⟨⟨⟨g1, g2⟩, g3⟩, g4⟩, g5⟩, g6⟩ := h5
  simp [Cond.before, Cond.holds, Cond.value, h1, h2, h3, h4, g1, g2, g3, g4, g5, g6]
def isCode : Jvm.Cond → Bool
  | .code _ _ _ _ => true
  | _ => false
theorem all_split {L : List Jvm.Cond} {P : Jvm.Cond → Bool} (h1 : L.all (fun c => isCode c || P c) = true) (h2 : ∀ c ∈ L.filter isCode, P c = true) : L.all P = true := by
  refine List.all_eq_true.mpr fun c hc => ?_
  have h := List.all_eq_true.mp h1 c hc
  rcases Bool.eq_false_or_eq_true (isCode c) with hi | hi
  · exact h2 c (List.mem_filter.mpr ⟨hc, hi⟩)
  · simpa [hi] using h
set_option maxRecDepth 65536 in
theorem w_c0 : (Jvm.Cond.code x code maxLocals ret).before args0 about1 = true := code_word (m := ⟨1, 1⟩) (meth := k1m1) (c := k1c1) (by decide +kernel) rfl rfl rfl (by decide +kernel)
set_option maxRecDepth 65536 in
theorem w_c1 : (Jvm.Cond.code ({ cls := "com/example/muset/muset/sparql/Arithmetic$Operator", name := "symbol", desc := "()Ljava/lang/String;" } : Jvm.MethodName) prog_80_method_4_code (1 : Nat) (Option.some (Jvm.ClassFile.FieldType.object "java/lang/String"))).before args0 about1 = true := code_word (m := ⟨6, 0⟩) (meth := k6m0) (c := k6c0) (by decide +kernel) rfl rfl rfl (by decide +kernel)
set_option maxRecDepth 65536 in
theorem w_c2 : (Jvm.Cond.code ({ cls := "java/lang/String", name := "equals", desc := "(Ljava/lang/Object;)Z" } : Jvm.MethodName) jdk_42_method_66_code (3 : Nat) (Option.some Jvm.ClassFile.FieldType.boolean)).before args0 about1 = true := code_word (m := ⟨9, 1⟩) (meth := k9m1) (c := k9c1) (by decide +kernel) rfl rfl rfl (by decide +kernel)
set_option maxRecDepth 65536 in
theorem w_c3 : (Jvm.Cond.code ({ cls := "java/lang/StringLatin1", name := "equals", desc := "([B[B)Z" } : Jvm.MethodName) jdk_43_method_13_code (3 : Nat) (Option.some Jvm.ClassFile.FieldType.boolean)).before args0 about1 = true := code_word (m := ⟨10, 1⟩) (meth := k10m1) (c := k10c1) (by decide +kernel) rfl rfl rfl (by decide +kernel)
set_option maxRecDepth 65536 in
theorem w_c4 : (Jvm.Cond.code ({ cls := "com/example/muset/muset/sparql/Arithmetic$Operator", name := "isAdditive", desc := "()Z" } : Jvm.MethodName) prog_80_method_5_code (1 : Nat) (Option.some Jvm.ClassFile.FieldType.boolean)).before args0 about1 = true := code_word (m := ⟨6, 1⟩) (meth := k6m1) (c := k6c1) (by decide +kernel) rfl rfl rfl (by decide +kernel)
def codes1 : List Jvm.Cond := [Jvm.Cond.code x code maxLocals ret, Jvm.Cond.code ({ cls := "com/example/muset/muset/sparql/Arithmetic$Operator", name := "symbol", desc := "()Ljava/lang/String;" } : Jvm.MethodName) prog_80_method_4_code (1 : Nat) (Option.some (Jvm.ClassFile.FieldType.object "java/lang/String")), Jvm.Cond.code ({ cls := "java/lang/String", name := "equals", desc := "(Ljava/lang/Object;)Z" } : Jvm.MethodName) jdk_42_method_66_code (3 : Nat) (Option.some Jvm.ClassFile.FieldType.boolean), Jvm.Cond.code ({ cls := "java/lang/StringLatin1", name := "equals", desc := "([B[B)Z" } : Jvm.MethodName) jdk_43_method_13_code (3 : Nat) (Option.some Jvm.ClassFile.FieldType.boolean), Jvm.Cond.code ({ cls := "com/example/muset/muset/sparql/Arithmetic$Operator", name := "isAdditive", desc := "()Z" } : Jvm.MethodName) prog_80_method_5_code (1 : Nat) (Option.some Jvm.ClassFile.FieldType.boolean)]
set_option maxRecDepth 65536 in
theorem codes_eq : words1.filter isCode = codes1 := rfl
theorem w_codes : ∀ c ∈ words1.filter isCode, c.before args0 about1 = true := by
  rw [codes_eq]
  intro c hc
  simp only [codes1, List.mem_cons, List.not_mem_nil, or_false] at hc
  rcases hc with rfl | rfl | rfl | rfl | rfl
  · exact w_c0
  · exact w_c1
  · exact w_c2
  · exact w_c3
  · exact w_c4
set_option maxRecDepth 65536 in
theorem w_t1 : (words1.take 24).all (fun c => isCode c || c.before args0 about1) = true := by decide +kernel
set_option maxRecDepth 65536 in
theorem w_t2 : (words1.drop 24).all (fun c => isCode c || c.before args0 about1) = true := by decide +kernel
theorem w_tables : (allAtoms (Jvm.Cond.code x code maxLocals ret :: tables_1)).before args0 about1 = true := by
  rw [allAtoms_all]
  show words1.all (fun c => c.before args0 about1) = true
  refine all_split ?_ w_codes
  rw [← List.take_append_drop 24 words1, List.all_append, w_t1, w_t2]
  rfl
set_option maxRecDepth 65536 in
theorem w_rest : rest_1_c.before args0 about1 = true := by decide +kernel
set_option maxRecDepth 65536 in
theorem w_case : (Jvm.Cond.and given_1 narrow_1).before args0 about1 = true := by decide +kernel
set_option maxRecDepth 65536 in
theorem w_consts : constsHeld consts_1 about1 := Jvm.Lit.constsHeldB_iff.mp (by decide +kernel)
theorem w_applies : (headSpec (Jvm.Cond.code x code maxLocals ret :: tables_1) room_1).applies x e0.platform about1 = true :=
  (Spec.applies_iff w_frames).mpr ⟨w_running, w_runnable, w_alone, w_named, w_hears, w_ripe, w_room, w_tables⟩
theorem atStart : AtStart classFile x code maxLocals ret World_1 tables_1 room_1 Calls_1 rest_1 Pre_1 launch0 p0 e0 about1 theMethod args0 below0 :=
  ⟨lists_1, trivial, launch0.admits_env _ _ _, launch0.least_env, fairChoices_fair.cas, fairChoices_fair.clock, w_frames, w_args, w_heap, w_applies, ⟨w_consts, trivial⟩, w_rest, w_case⟩
end start1
theorem witness_1 : WitnessClaimed_1 := ⟨start1.p0, start1.e0, start1.about1, start1.theMethod, start1.args0, start1.below0, start1.atStart⟩
end Jvm.Pilot.@@N@@
