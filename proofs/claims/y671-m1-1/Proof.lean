import JvmDerived
import JvmDerived.Pilot.@@N@@Statement
import JvmDerived.Pilot.@@N@@Code
set_option linter.unusedVariables false
set_option linter.unusedSimpArgs false
namespace Jvm.Pilot.@@N@@
open Jvm Jvm.ClassFile Sem Op Lib Jvm.Free Jvm.Stand Jvm.LawKit Jvm.RoadKit Bundle Jvm.Pilot.@@N@@.Jvm.D
section OwnKit
variable {p : Program} {l : Launch} {e : Env} {R : Room} {s : State} {m : MethodId} {args : Array Value} {below : List Frame} {meth : Method} {c : Code} {T : State} {locs : List Loc} {cells slots : Nat}
/-- from the state A the body runs to its end and leaves what Q says -/
def own_Go (p : Program) (e : Env) (below : List Frame) (s : State) (Q : Option Value → Heap → List Loc → Prop) (kc ks : Nat) (A : State) : Prop :=
  ∃ s₂ o, Steps p.tables e below A s₂ ∧ s₂.status = .running ∧ Ended s₂ below o ∧ ∃ v L, o = .returned v ∧ Q v s₂.heap L ∧ FrameEnd s o s₂ L kc ks
theorem own_go {Q : Option Value → Heap → List Loc → Prop} {kc ks : Nat} {A B : State} (h : ∀ t, Steps p.tables e below B t → Steps p.tables e below A t) (k : own_Go p e below s Q kc ks B) : own_Go p e below s Q kc ks A := by
  obtain ⟨s₂, o, h1, h2⟩ := k
  exact ⟨s₂, o, h _ h1, h2⟩
/-- from the state A the body runs to the frame g', the heap as it was -/
def own_Arm (p : Program) (l : Launch) (e : Env) (R : Room) (s : State) (m : MethodId) (args : Array Value) (below : List Frame) (meth : Method) (c : Code) (cells slots n0 : Nat) (h : Heap) (g' : JFrame) (A : State) : Prop :=
  ∃ (T' : State) (locs' : List Loc), Stand p l e R s m args below meth c T' locs' cells slots ∧ Fr n0 locs' ∧ T'.heap = h ∧ ∀ t, Steps p.tables e below (T'.setTop g') t → Steps p.tables e below A t
theorem own_arm {n0 : Nat} {h : Heap} {g' : JFrame} {A B : State} (k1 : ∀ t, Steps p.tables e below B t → Steps p.tables e below A t) (k : own_Arm p l e R s m args below meth c cells slots n0 h g' B) : own_Arm p l e R s m args below meth c cells slots n0 h g' A := by
  obtain ⟨T', locs', h1, h2, h3, h4⟩ := k
  exact ⟨T', locs', h1, h2, h3, fun t kt => k1 t (h4 t kt)⟩
theorem own_armEnd {n0 : Nat} {h : Heap} {g g' : JFrame} (X : Stand p l e R s m args below meth c T locs cells slots) (N : Fr n0 locs) (eT : T.heap = h) (q : g' = g) : own_Arm p l e R s m args below meth c cells slots n0 h g' (T.setTop g) :=
  ⟨T, locs, X, N, eT, fun t kt => q ▸ kt⟩
theorem own_mrg {n0 : Nat} {h : Heap} {g g' : JFrame} (X : Stand p l e R s m args below meth c T locs cells slots) (k : own_Arm p l e R s m args below meth c cells slots n0 h g' (T.setTop g)) :
    ∃ (T' : State) (locs' : List Loc), Stand p l e R s m args below meth c T' locs' cells slots ∧ Fr n0 locs' ∧ T'.heap = h ∧ ∀ t, Steps p.tables e below (T'.setTop g') t → Steps p.tables e below (T.setTop g) t := k
theorem own_leave {Q : Option Value → Heap → List Loc → Prop} {kc ks : Nat} {A : State} {v : Option Value} (X : Stand p l e R s m args below meth c T locs cells slots) (hv : meth.sig.returnType = none → v = none) (hlk : meth.locks = false)
    (hc : cells ≤ kc) (hs : slots ≤ ks) (hQ : Q v T.heap locs) (k : ∀ fs, (∀ (f : JFrame) (acts : List Action), f.method = m → f.locked = none → f.entered = [] → (doReturn e (T.setTop f) acts v).1 = T.setFrames fs) → Steps p.tables e below A (T.setFrames fs)) : own_Go p e below s Q kc ks A := by
  obtain ⟨fs, hr, hrun, hended, hW, hsame⟩ := X.leave (v := v) hv hlk
  exact ⟨_, _, k fs hr, hrun, hended, _, _, rfl, hQ, ⟨_, rfl⟩, hW, hsame.mono hc hs⟩
theorem own_retI {Q : Option Value → Heap → List Loc → Prop} {kc ks pc : Nat} {Ls : Array Slot} {z : Int32} {rest : List Value} (X : Stand p l e R s m args below meth c T locs cells slots) (hx : p.tables.exec = Jvm.exec) (hret : meth.sig.returnType = some .int) (hlk : meth.locks = false)
    (hd : decode c.code pc = .ok (.ireturn, 1)) (hc : cells ≤ kc) (hs : slots ≤ ks) (hQ : Q (some (.int z)) T.heap locs) : own_Go p e below s Q kc ks (T.setTop (mkF m pc Ls (.int z :: rest))) := by
  refine own_leave X (fun h => by rw [hret] at h; cases h) hlk hc hs hQ fun fs hl => ?_
  have hm' : T.vm.method? m = some meth := X.method'
  have hn : narrow .int (.int z) = .int z := rfl
  show Steps p.tables e below (T.setTop { method := m, pc := pc, locals := Ls, stack := _ :: rest, locked := none }) _
  jvm_step X.here [X.here.top, hx, hd, hm', hret, hn]
  first | (intro acts; rw [hl _ acts rfl rfl rfl]) | rw [hl _ _ rfl rfl rfl]
  exact Steps.refl _
theorem own_retN {Q : Option Value → Heap → List Loc → Prop} {kc ks pc : Nat} {Ls : Array Slot} {z : Int32} {rest : List Value} {t : FieldType} (X : Stand p l e R s m args below meth c T locs cells slots) (hx : p.tables.exec = Jvm.exec) (hret : meth.sig.returnType = some t) (ht : t = .boolean ∨ t = .byte ∨ t = .char ∨ t = .short) (hlk : meth.locks = false)
    (hd : decode c.code pc = .ok (.ireturn, 1)) (hc : cells ≤ kc) (hs : slots ≤ ks) (hQ : Q (some (.int (nar t z))) T.heap locs) : own_Go p e below s Q kc ks (T.setTop (mkF m pc Ls (.int z :: rest))) :=
  own_leave X (fun h => by rw [hret] at h; cases h) hlk hc hs hQ fun fs hl => retN X hx (t := t) hret ht hd hl
theorem own_nar01 {z : Int32} (h : z = 0 ∨ z = 1) : nar .boolean z = z := by rcases h with rfl | rfl <;> rfl
theorem own_retZ {Q : Option Value → Heap → List Loc → Prop} {kc ks pc : Nat} {Ls : Array Slot} {z : Int32} {rest : List Value} (X : Stand p l e R s m args below meth c T locs cells slots) (hx : p.tables.exec = Jvm.exec) (hret : meth.sig.returnType = some .boolean) (hlk : meth.locks = false)
    (hd : decode c.code pc = .ok (.ireturn, 1)) (hc : cells ≤ kc) (hs : slots ≤ ks) (hz : z = 0 ∨ z = 1) (hQ : Q (some (.int z)) T.heap locs) : own_Go p e below s Q kc ks (T.setTop (mkF m pc Ls (.int z :: rest))) :=
  own_retN X hx hret (Or.inl rfl) hlk hd hc hs (by rw [own_nar01 hz]; exact hQ)
theorem own_retJ {Q : Option Value → Heap → List Loc → Prop} {kc ks pc : Nat} {Ls : Array Slot} {z : Int64} (X : Stand p l e R s m args below meth c T locs cells slots) (hx : p.tables.exec = Jvm.exec) (hret : meth.sig.returnType = some .long) (hlk : meth.locks = false)
    (hd : decode c.code pc = .ok (.lreturn, 1)) (hc : cells ≤ kc) (hs : slots ≤ ks) (hQ : Q (some (.long z)) T.heap locs) : own_Go p e below s Q kc ks (T.setTop (mkF m pc Ls [.long z])) :=
  own_leave X (fun h => by rw [hret] at h; cases h) hlk hc hs hQ fun fs hl => X.lreturnOut hx hret hd hl
theorem own_retA {Q : Option Value → Heap → List Loc → Prop} {kc ks pc : Nat} {Ls : Array Slot} {w : Value} {t : FieldType} {rest : List Value} (X : Stand p l e R s m args below meth c T locs cells slots) (hx : p.tables.exec = Jvm.exec) (hret : meth.sig.returnType = some t) (ht : t.isReference = true) (hw : w.isRef = true) (hlk : meth.locks = false)
    (hd : decode c.code pc = .ok (.areturn, 1)) (hc : cells ≤ kc) (hs : slots ≤ ks) (hQ : Q (some w) T.heap locs) : own_Go p e below s Q kc ks (T.setTop (mkF m pc Ls (w :: rest))) := by
  refine own_leave X (fun h => by rw [hret] at h; cases h) hlk hc hs hQ fun fs hl => ?_
  have hm' : T.vm.method? m = some meth := X.method'
  show Steps p.tables e below (T.setTop { method := m, pc := pc, locals := Ls, stack := _ :: rest, locked := none }) _
  rcases ref_cases hw with rfl | ⟨a, rfl⟩
  all_goals
    jvm_step X.here [X.here.top, hx, hd, hm', hret, Value.isRef, ht]
    first | (intro acts; rw [hl _ acts rfl rfl rfl]) | rw [hl _ _ rfl rfl rfl]
    exact Steps.refl _
theorem own_retV {Q : Option Value → Heap → List Loc → Prop} {kc ks pc : Nat} {Ls : Array Slot} (X : Stand p l e R s m args below meth c T locs cells slots) (hx : p.tables.exec = Jvm.exec) (hret : meth.sig.returnType = none) (hlk : meth.locks = false)
    (hd : decode c.code pc = .ok (.return_, 1)) (hc : cells ≤ kc) (hs : slots ≤ ks) (hQ : Q none T.heap locs) : own_Go p e below s Q kc ks (T.setTop (mkF m pc Ls [])) :=
  own_leave X (fun _ => rfl) hlk hc hs hQ fun fs hl => X.returnOut hx hret hd hl
theorem own_getFR {Z : State} {a0 : Array Value} {h : Heap} (X : Stand p l e R s m args below meth c T locs cells slots) (hx : p.tables.exec = Jvm.exec) (hZ : Z.Warmed39 s.vm) {own O n d : String} {index : Nat} (hown : s.vm.findClass own = some m.cls) (w : (Jvm.Cond.fieldRef own index O n d).before a0 Z = true)
    (eT : T.heap = h) {a : Addr} {v : Value} (F : Fld Z h a O n d v) {g : JFrame} (hg : g.method = m) {rest : List Value} (hs : g.stack = .ref a :: rest) (hd : decode c.code g.pc = .ok (.getfield index, 3)) (target : State) (k : Steps p.tables e below (T.setTop { g with pc := g.pc + 3, stack := v :: rest }) target) : Steps p.tables e below (T.setTop g) target := by
  obtain ⟨cell, cf, kc, i, f, h1, h2, h3, h4, -, -, h7⟩ := F
  have hW : Z.Warmed39 T.vm := wtrans hZ X.warmed
  have w2 := Cond.fieldRef_warmed39 hW w
  obtain ⟨k', hi, -⟩ := State.fieldFound?_setVm (s := Z) hW.alike h2
  have hc : (Z.setVm T.vm).vm.findClass own = some m.cls := by show T.vm.findClass own = _; rw [X.warmed.alike.findClass]; exact hown
  obtain ⟨c1, k1, i1, f1, e1, hr⟩ := Cond.fieldRef_spec hc w2
  cases hi.symm.trans e1
  exact (X.getfieldR hx hg (cF := cf) (field := f) hr h3 hs (by rw [eT]; exact h1) h4 h7 hd (Steps.refl _)).trans k
theorem own_ite01 {c : Prop} [Decidable c] {a b : Int32} (ha : a = 0 ∨ a = 1) (hb : b = 0 ∨ b = 1) : (if c then a else b) = 0 ∨ (if c then a else b) = 1 := by split <;> assumption
end OwnKit
theorem own_remI (a b : Int32) : a - a / b * b = a % b := by
  apply Int32.toInt_inj.mp
  rw [Int32.toInt_sub, Int32.toInt_mul, Int32.toInt_div, Int32.toInt_mod]
  rw [Int.bmod_mul_bmod, Int.sub_bmod_bmod]
  have e : a.toInt - a.toInt.tdiv b.toInt * b.toInt = a.toInt.tmod b.toInt := by
    have := Int.mul_tdiv_add_tmod a.toInt b.toInt
    rw [Int.mul_comm] at this
    omega
  rw [e, ← Int32.toInt_mod]
  exact Int.bmod_eq_of_le (by have := Int32.le_toInt (a % b); omega) (by have := Int32.toInt_lt (a % b); omega)
theorem own_remJ (a b : Int64) : a - a / b * b = a % b := by
  apply Int64.toInt_inj.mp
  rw [Int64.toInt_sub, Int64.toInt_mul, Int64.toInt_div, Int64.toInt_mod]
  rw [Int.bmod_mul_bmod, Int.sub_bmod_bmod]
  have e : a.toInt - a.toInt.tdiv b.toInt * b.toInt = a.toInt.tmod b.toInt := by
    have := Int.mul_tdiv_add_tmod a.toInt b.toInt
    rw [Int.mul_comm] at this
    omega
  rw [e, ← Int64.toInt_mod]
  exact Int.bmod_eq_of_le (by have := Int64.le_toInt (a % b); omega) (by have := Int64.toInt_lt (a % b); omega)
theorem own_lc_eq {a b : Int64} (h : a = b) : lcmpW a b = 0 := by subst h; simp [lcmpW]
theorem own_lc_neq {a b : Int64} (h : ¬ (a = b)) : ¬ (lcmpW a b = 0) := by unfold lcmpW; split <;> first | decide | (rw [if_neg h]; decide)
theorem own_lc_lt {a b : Int64} (h : a < b) : lcmpW a b < 0 := by
  have h1 : ¬ (a > b) := fun q => Int64.lt_irrefl (Int64.lt_trans h q)
  have h2 : ¬ (a = b) := fun q => by subst q; exact Int64.lt_irrefl h
  rw [lcmpW, if_neg h1, if_neg h2]; decide
theorem own_lc_nlt {a b : Int64} (h : ¬ (a < b)) : ¬ (lcmpW a b < 0) := by
  unfold lcmpW
  split
  · decide
  · rename_i h1
    split
    · decide
    · rename_i h2; exact absurd (Int64.le_antisymm (Int64.not_lt.mp h1) (Int64.not_lt.mp h)) h2
theorem own_lc_gt {a b : Int64} (h : b < a) : (0 : Int32) < lcmpW a b := by rw [lcmpW, if_pos h]; decide
theorem own_lc_ngt {a b : Int64} (h : ¬ (b < a)) : ¬ ((0 : Int32) < lcmpW a b) := by
  rw [lcmpW, if_neg h]; split <;> decide
theorem own_rn {w : Value} {C : String} (h : w.isRef = true) : narrow (.object C) w = w := by rcases ref_cases h with rfl | ⟨a, rfl⟩ <;> rfl
theorem own_rf {w : Value} {C : String} (h : w.isRef = true) : fits (.object C) w = true := by rcases ref_cases h with rfl | ⟨a, rfl⟩ <;> rfl
theorem own_plainE {Z : State} {h : Heap} {a : Addr} {C : String} (E : Exa Z h a C) : ∀ cell : Cell, h[a]? = some cell → cell.vm.isStatics = false := fun cell hc => by
  obtain ⟨c, k, h1, -, -, h4, -⟩ := E
  cases h1.symm.trans hc; exact h4
theorem own_staKeep {Z : State} {h h' : Heap} {C n d : String} {v : Value} {ws : List Addr} (F : Sta Z h C n d v) (K : Keep h h' ws) (q : ∀ x ∈ ws, ∀ cell : Cell, h[x]? = some cell → cell.vm.isStatics = false) : Sta Z h' C n d v := by
  obtain ⟨cf, i, k, f, st, cell, h1, h2, h3, h4, h5, h6, h7⟩ := F
  exact ⟨cf, i, k, f, st, cell, h1, h2, h3, h4, K.2.1 st cell h5 (fun hm => by rw [q st hm cell h5] at h6; cases h6), h6, h7⟩
def own_up {α : Type} (f : Nat → α) (i : Nat) (v : α) : Nat → α := fun k => if k = i then v else f k
def own_AI (Z : State) (h : Heap) (a : Addr) (ty : FieldType) (n : Nat) (f : Nat → Int32) : Prop := ∃ c : Cell, Arr Z h a c ty ∧ c.slots.size = n ∧ n < 2 ^ 31 ∧ ∀ j, j < n → c.slots[j]? = some (.int (f j))
theorem own_AI.lt {Z : State} {h : Heap} {a : Addr} {ty : FieldType} {n : Nat} {f : Nat → Int32} (F : own_AI Z h a ty n f) : a < h.size := by obtain ⟨c, A, -⟩ := F; exact A.lt
theorem own_AI.ext {Z : State} {h h' : Heap} {a : Addr} {ty : FieldType} {n : Nat} {f : Nat → Int32} (F : own_AI Z h a ty n f) (E : Ext h h') : own_AI Z h' a ty n f := by obtain ⟨c, A, r⟩ := F; exact ⟨c, A.ext E, r⟩
theorem own_AI.other {Z : State} {h h' : Heap} {a b : Addr} {ty : FieldType} {n sl : Nat} {w : Value} {f : Nat → Int32} (F : own_AI Z h a ty n f) (W : Wr h h' b sl w) (q : a ≠ b) : own_AI Z h' a ty n f := by obtain ⟨c, A, r⟩ := F; exact ⟨c, A.other W q, r⟩
theorem own_AI.keep {Z : State} {h h' : Heap} {a : Addr} {ty : FieldType} {n : Nat} {ws : List Addr} {f : Nat → Int32} (F : own_AI Z h a ty n f) (K : Keep h h' ws) (q : a ∉ ws) : own_AI Z h' a ty n f := by obtain ⟨c, A, r⟩ := F; exact ⟨c, ⟨K.2.1 a c A.1 q, A.2⟩, r⟩
theorem own_plainAI {Z : State} {h : Heap} {a : Addr} {ty : FieldType} {n : Nat} {f : Nat → Int32} (F : own_AI Z h a ty n f) : ∀ cell : Cell, h[a]? = some cell → cell.vm.isStatics = false := fun cell hc => by
  obtain ⟨c, A, -⟩ := F
  cases A.1.symm.trans hc; exact A.plain
theorem own_AI.wr {Z : State} {h h' : Heap} {a : Addr} {ty : FieldType} {n i : Nat} {x : Int32} {f : Nat → Int32} (F : own_AI Z h a ty n f) (W : Wr h h' a i (.int x)) : own_AI Z h' a ty n (own_up f i x) := by
  obtain ⟨c, A, S, B, H⟩ := F
  refine ⟨_, A.same W, by rw [sz_set]; exact S, B, fun j hj => ?_⟩
  show (c.slots.setIfInBounds i _)[j]? = _
  rw [Array.getElem?_setIfInBounds]
  by_cases q : i = j
  · subst q
    rw [if_pos rfl, if_pos (by rw [S]; exact hj)]; simp [own_up]
  · rw [if_neg q, H j hj, own_up, if_neg (fun e => q e.symm)]
theorem own_AI.new {Z : State} {h : Heap} {a : Addr} {k : ClassId} {ty : FieldType} {z : Int32} {n : Nat} (A : Arr Z h a (newA k ty z) ty) (hd : defaultValue ty = .int 0) (hn : z.toNatClampNeg = n) : own_AI Z h a ty n (fun _ => 0) := by
  refine ⟨_, A, by rw [sz_new]; exact hn, ?_, fun j hj => ?_⟩
  · have := Int32.toInt_lt z; rw [← hn]; unfold Int32.toNatClampNeg; omega
  · have hs : (newA k ty z).slots.size = n := by rw [sz_new]; exact hn
    simp only [newA] at hs ⊢
    rw [Array.getElem?_replicate, if_pos (by rw [hn]; exact hj), hd]
def own_AJ (Z : State) (h : Heap) (a : Addr) (ty : FieldType) (n : Nat) (f : Nat → Int64) : Prop := ∃ c : Cell, Arr Z h a c ty ∧ c.slots.size = n ∧ n < 2 ^ 31 ∧ ∀ j, j < n → c.slots[j]? = some (.long (f j))
theorem own_AJ.lt {Z : State} {h : Heap} {a : Addr} {ty : FieldType} {n : Nat} {f : Nat → Int64} (F : own_AJ Z h a ty n f) : a < h.size := by obtain ⟨c, A, -⟩ := F; exact A.lt
theorem own_AJ.ext {Z : State} {h h' : Heap} {a : Addr} {ty : FieldType} {n : Nat} {f : Nat → Int64} (F : own_AJ Z h a ty n f) (E : Ext h h') : own_AJ Z h' a ty n f := by obtain ⟨c, A, r⟩ := F; exact ⟨c, A.ext E, r⟩
theorem own_AJ.other {Z : State} {h h' : Heap} {a b : Addr} {ty : FieldType} {n sl : Nat} {w : Value} {f : Nat → Int64} (F : own_AJ Z h a ty n f) (W : Wr h h' b sl w) (q : a ≠ b) : own_AJ Z h' a ty n f := by obtain ⟨c, A, r⟩ := F; exact ⟨c, A.other W q, r⟩
theorem own_AJ.keep {Z : State} {h h' : Heap} {a : Addr} {ty : FieldType} {n : Nat} {ws : List Addr} {f : Nat → Int64} (F : own_AJ Z h a ty n f) (K : Keep h h' ws) (q : a ∉ ws) : own_AJ Z h' a ty n f := by obtain ⟨c, A, r⟩ := F; exact ⟨c, ⟨K.2.1 a c A.1 q, A.2⟩, r⟩
theorem own_plainAJ {Z : State} {h : Heap} {a : Addr} {ty : FieldType} {n : Nat} {f : Nat → Int64} (F : own_AJ Z h a ty n f) : ∀ cell : Cell, h[a]? = some cell → cell.vm.isStatics = false := fun cell hc => by
  obtain ⟨c, A, -⟩ := F
  cases A.1.symm.trans hc; exact A.plain
theorem own_AJ.wr {Z : State} {h h' : Heap} {a : Addr} {ty : FieldType} {n i : Nat} {x : Int64} {f : Nat → Int64} (F : own_AJ Z h a ty n f) (W : Wr h h' a i (.long x)) : own_AJ Z h' a ty n (own_up f i x) := by
  obtain ⟨c, A, S, B, H⟩ := F
  refine ⟨_, A.same W, by rw [sz_set]; exact S, B, fun j hj => ?_⟩
  show (c.slots.setIfInBounds i _)[j]? = _
  rw [Array.getElem?_setIfInBounds]
  by_cases q : i = j
  · subst q
    rw [if_pos rfl, if_pos (by rw [S]; exact hj)]; simp [own_up]
  · rw [if_neg q, H j hj, own_up, if_neg (fun e => q e.symm)]
theorem own_AJ.new {Z : State} {h : Heap} {a : Addr} {k : ClassId} {ty : FieldType} {z : Int32} {n : Nat} (A : Arr Z h a (newA k ty z) ty) (hd : defaultValue ty = .long 0) (hn : z.toNatClampNeg = n) : own_AJ Z h a ty n (fun _ => 0) := by
  refine ⟨_, A, by rw [sz_new]; exact hn, ?_, fun j hj => ?_⟩
  · have := Int32.toInt_lt z; rw [← hn]; unfold Int32.toNatClampNeg; omega
  · have hs : (newA k ty z).slots.size = n := by rw [sz_new]; exact hn
    simp only [newA] at hs ⊢
    rw [Array.getElem?_replicate, if_pos (by rw [hn]; exact hj), hd]
section OwnArr
variable {p : Program} {l : Launch} {e : Env} {R : Room} {s : State} {m : MethodId} {args : Array Value} {below : List Frame} {meth : Method} {c : Code} {T : State} {locs : List Loc} {cells slots : Nat} {Z : State} {h : Heap}
theorem own_inb {j : Int32} {n k : Nat} (S : k = n) (hj : ¬ j < 0 ∧ j.toNatClampNeg < n) : ¬ (j < 0 ∨ k ≤ j.toNatClampNeg) := fun q => q.elim hj.1 (fun u => absurd hj.2 (by omega))
theorem own_ldI (X : Stand p l e R s m args below meth c T locs cells slots) (hx : p.tables.exec = Jvm.exec) (hZ : Z.Warmed39 s.vm) (eT : T.heap = h) {a : Addr} {n : Nat} {f : Nat → Int32} (A : own_AI Z h a .int n f) {j : Int32} (hj : ¬ j < 0 ∧ j.toNatClampNeg < n)
    {g : JFrame} (hg : g.method = m) {rest : List Value} (hs : g.stack = .int j :: .ref a :: rest) (hd : decode c.code g.pc = .ok (.iaload, 1)) (target : State) (k : Steps p.tables e below (T.setTop { g with pc := g.pc + 1, stack := .int (f j.toNatClampNeg) :: rest }) target) : Steps p.tables e below (T.setTop g) target := by
  obtain ⟨c', Ar, S, -, H⟩ := A
  exact X.iaload hx (by rw [eT]; exact Ar.1) (State.isArrayOf_alike hZ.alike Ar.2.1) Ar.2.2 (own_inb S hj) (H _ hj.2) hg hs hd target k
theorem own_ldB (X : Stand p l e R s m args below meth c T locs cells slots) (hx : p.tables.exec = Jvm.exec) (hZ : Z.Warmed39 s.vm) (eT : T.heap = h) {a : Addr} {n : Nat} {f : Nat → Int32} (A : own_AI Z h a .byte n f) {j : Int32} (hj : ¬ j < 0 ∧ j.toNatClampNeg < n)
    {g : JFrame} (hg : g.method = m) {rest : List Value} (hs : g.stack = .int j :: .ref a :: rest) (hd : decode c.code g.pc = .ok (.baload, 1)) (target : State) (k : Steps p.tables e below (T.setTop { g with pc := g.pc + 1, stack := .int (f j.toNatClampNeg) :: rest }) target) : Steps p.tables e below (T.setTop g) target := by
  obtain ⟨c', Ar, S, -, H⟩ := A
  exact X.baloadBytes hx (by rw [eT]; exact Ar.1) (State.isArrayOf_alike hZ.alike Ar.2.1) Ar.2.2 (own_inb S hj) (H _ hj.2) hg hs hd target k
theorem own_ldJ (X : Stand p l e R s m args below meth c T locs cells slots) (hx : p.tables.exec = Jvm.exec) (hZ : Z.Warmed39 s.vm) (eT : T.heap = h) {a : Addr} {n : Nat} {f : Nat → Int64} (A : own_AJ Z h a .long n f) {j : Int32} (hj : ¬ j < 0 ∧ j.toNatClampNeg < n)
    {g : JFrame} (hg : g.method = m) {rest : List Value} (hs : g.stack = .int j :: .ref a :: rest) (hd : decode c.code g.pc = .ok (.laload, 1)) (target : State) (k : Steps p.tables e below (T.setTop { g with pc := g.pc + 1, stack := .long (f j.toNatClampNeg) :: rest }) target) : Steps p.tables e below (T.setTop g) target := by
  obtain ⟨c', Ar, S, -, H⟩ := A
  exact X.laload hx (by rw [eT]; exact Ar.1) (State.isArrayOf_alike hZ.alike Ar.2.1) Ar.2.2 (own_inb S hj) (H _ hj.2) hg hs hd target k
theorem own_lenI (X : Stand p l e R s m args below meth c T locs cells slots) (hx : p.tables.exec = Jvm.exec) (hZ : Z.Warmed39 s.vm) (eT : T.heap = h) {a : Addr} {ty : FieldType} {n : Nat} {f : Nat → Int32} (A : own_AI Z h a ty n f)
    {g : JFrame} (hg : g.method = m) {rest : List Value} (hs : g.stack = .ref a :: rest) (hd : decode c.code g.pc = .ok (.arraylength, 1)) (target : State) (k : Steps p.tables e below (T.setTop { g with pc := g.pc + 1, stack := .int (n.toInt32) :: rest }) target) : Steps p.tables e below (T.setTop g) target := by
  obtain ⟨c', Ar, S, -, H⟩ := A
  exact X.arraylength hx (by rw [eT]; exact Ar.1) (State.isArrayOf_alike hZ.alike Ar.2.1) hg hs hd target (by rw [S]; exact k)
theorem own_lenJ (X : Stand p l e R s m args below meth c T locs cells slots) (hx : p.tables.exec = Jvm.exec) (hZ : Z.Warmed39 s.vm) (eT : T.heap = h) {a : Addr} {ty : FieldType} {n : Nat} {f : Nat → Int64} (A : own_AJ Z h a ty n f)
    {g : JFrame} (hg : g.method = m) {rest : List Value} (hs : g.stack = .ref a :: rest) (hd : decode c.code g.pc = .ok (.arraylength, 1)) (target : State) (k : Steps p.tables e below (T.setTop { g with pc := g.pc + 1, stack := .int (n.toInt32) :: rest }) target) : Steps p.tables e below (T.setTop g) target := by
  obtain ⟨c', Ar, S, -, H⟩ := A
  exact X.arraylength hx (by rw [eT]; exact Ar.1) (State.isArrayOf_alike hZ.alike Ar.2.1) hg hs hd target (by rw [S]; exact k)
theorem own_stI (X : Stand p l e R s m args below meth c T locs cells slots) (hx : p.tables.exec = Jvm.exec) (hZ : Z.Warmed39 s.vm) (eT : T.heap = h) {a : Addr} {n : Nat} {f : Nat → Int32} (A : own_AI Z h a .int n f) {j x : Int32} (hj : ¬ j < 0 ∧ j.toNatClampNeg < n)
    {g : JFrame} (hg : g.method = m) {rest : List Value} (hs : g.stack = .int x :: .int j :: .ref a :: rest) (hd : decode c.code g.pc = .ok (.iastore, 1)) :
    ∃ T' h', Stand p l e R s m args below meth c T' (locs ++ [⟨a, j.toNatClampNeg⟩]) cells slots ∧ T'.heap = h' ∧ Wr h h' a j.toNatClampNeg (.int x) ∧ own_AI Z h' a .int n (own_up f j.toNatClampNeg x) ∧ ∀ target, Steps p.tables e below (T'.setTop { g with pc := g.pc + 1, stack := rest }) target → Steps p.tables e below (T.setTop g) target := by
  have A2 := A
  obtain ⟨c', Ar, S, -, H⟩ := A
  obtain ⟨T', h', X', e', W, st⟩ := stI X hx hZ eT Ar (j := j) (x := x) (own_inb S hj) hg hs hd
  exact ⟨T', h', X', e', W, A2.wr W, st⟩
theorem own_stB (X : Stand p l e R s m args below meth c T locs cells slots) (hx : p.tables.exec = Jvm.exec) (hZ : Z.Warmed39 s.vm) (eT : T.heap = h) {a : Addr} {n : Nat} {f : Nat → Int32} (A : own_AI Z h a .byte n f) {j x : Int32} (hj : ¬ j < 0 ∧ j.toNatClampNeg < n)
    {g : JFrame} (hg : g.method = m) {rest : List Value} (hs : g.stack = .int x :: .int j :: .ref a :: rest) (hd : decode c.code g.pc = .ok (.bastore, 1)) :
    ∃ T' h', Stand p l e R s m args below meth c T' (locs ++ [⟨a, j.toNatClampNeg⟩]) cells slots ∧ T'.heap = h' ∧ Wr h h' a j.toNatClampNeg (.int (nar .byte x)) ∧ own_AI Z h' a .byte n (own_up f j.toNatClampNeg (nar .byte x)) ∧ ∀ target, Steps p.tables e below (T'.setTop { g with pc := g.pc + 1, stack := rest }) target → Steps p.tables e below (T.setTop g) target := by
  have A2 := A
  obtain ⟨c', Ar, S, -, H⟩ := A
  obtain ⟨T', h', X', e', W, st⟩ := stB X hx hZ eT Ar (j := j) (x := x) (own_inb S hj) hg hs hd
  exact ⟨T', h', X', e', W, A2.wr W, st⟩
theorem own_stC (X : Stand p l e R s m args below meth c T locs cells slots) (hx : p.tables.exec = Jvm.exec) (hZ : Z.Warmed39 s.vm) (eT : T.heap = h) {a : Addr} {n : Nat} {f : Nat → Int32} (A : own_AI Z h a .char n f) {j x : Int32} (hj : ¬ j < 0 ∧ j.toNatClampNeg < n)
    {g : JFrame} (hg : g.method = m) {rest : List Value} (hs : g.stack = .int x :: .int j :: .ref a :: rest) (hd : decode c.code g.pc = .ok (.castore, 1)) :
    ∃ T' h', Stand p l e R s m args below meth c T' (locs ++ [⟨a, j.toNatClampNeg⟩]) cells slots ∧ T'.heap = h' ∧ Wr h h' a j.toNatClampNeg (.int (nar .char x)) ∧ own_AI Z h' a .char n (own_up f j.toNatClampNeg (nar .char x)) ∧ ∀ target, Steps p.tables e below (T'.setTop { g with pc := g.pc + 1, stack := rest }) target → Steps p.tables e below (T.setTop g) target := by
  have A2 := A
  obtain ⟨c', Ar, S, -, H⟩ := A
  obtain ⟨T', h', X', e', W, st⟩ := stC X hx hZ eT Ar (j := j) (x := x) (own_inb S hj) hg hs hd
  exact ⟨T', h', X', e', W, A2.wr W, st⟩
theorem own_stJ (X : Stand p l e R s m args below meth c T locs cells slots) (hx : p.tables.exec = Jvm.exec) (hZ : Z.Warmed39 s.vm) (eT : T.heap = h) {a : Addr} {n : Nat} {f : Nat → Int64} (A : own_AJ Z h a .long n f) {j : Int32} {x : Int64} (hj : ¬ j < 0 ∧ j.toNatClampNeg < n)
    {g : JFrame} (hg : g.method = m) {rest : List Value} (hs : g.stack = .long x :: .int j :: .ref a :: rest) (hd : decode c.code g.pc = .ok (.lastore, 1)) :
    ∃ T' h', Stand p l e R s m args below meth c T' (locs ++ [⟨a, j.toNatClampNeg⟩]) cells slots ∧ T'.heap = h' ∧ Wr h h' a j.toNatClampNeg (.long x) ∧ own_AJ Z h' a .long n (own_up f j.toNatClampNeg x) ∧ ∀ target, Steps p.tables e below (T'.setTop { g with pc := g.pc + 1, stack := rest }) target → Steps p.tables e below (T.setTop g) target := by
  have A2 := A
  obtain ⟨c', Ar, S, -, H⟩ := A
  obtain ⟨T', h', X', e', W, st⟩ := stJ X hx hZ eT Ar (j := j) (x := x) (own_inb S hj) hg hs hd
  exact ⟨T', h', X', e', W, A2.wr W, st⟩
end OwnArr
theorem d1_0 : decode prog_60_method_2_code 0 = .ok (.aload_n 0, 1) := by decide +kernel
theorem d1_1 : decode prog_60_method_2_code 1 = .ok (.iload_n 1, 1) := by decide +kernel
theorem d1_2 : decode prog_60_method_2_code 2 = .ok (.baload, 1) := by decide +kernel
theorem d1_3 : decode prog_60_method_2_code 3 = .ok (.sipush 255, 3) := by decide +kernel
theorem d1_6 : decode prog_60_method_2_code 6 = .ok (.iand, 1) := by decide +kernel
theorem d1_7 : decode prog_60_method_2_code 7 = .ok (.istore_n 3, 1) := by decide +kernel
theorem d1_8 : decode prog_60_method_2_code 8 = .ok (.iload_n 3, 1) := by decide +kernel
theorem d1_9 : decode prog_60_method_2_code 9 = .ok (.sipush 128, 3) := by decide +kernel
theorem d1_12 : decode prog_60_method_2_code 12 = .ok (.if_icmp .ge 5, 3) := by decide +kernel
theorem d1_15 : decode prog_60_method_2_code 15 = .ok (.iconst 1, 1) := by decide +kernel
theorem d1_16 : decode prog_60_method_2_code 16 = .ok (.ireturn, 1) := by decide +kernel
theorem d1_17 : decode prog_60_method_2_code 17 = .ok (.sipush 128, 3) := by decide +kernel
theorem d1_20 : decode prog_60_method_2_code 20 = .ok (.istore 5, 2) := by decide +kernel
theorem d1_22 : decode prog_60_method_2_code 22 = .ok (.sipush 191, 3) := by decide +kernel
theorem d1_25 : decode prog_60_method_2_code 25 = .ok (.istore 6, 2) := by decide +kernel
theorem d1_27 : decode prog_60_method_2_code 27 = .ok (.iload_n 3, 1) := by decide +kernel
theorem d1_28 : decode prog_60_method_2_code 28 = .ok (.sipush 194, 3) := by decide +kernel
theorem d1_31 : decode prog_60_method_2_code 31 = .ok (.if_icmp .lt 16, 3) := by decide +kernel
theorem d1_34 : decode prog_60_method_2_code 34 = .ok (.iload_n 3, 1) := by decide +kernel
theorem d1_35 : decode prog_60_method_2_code 35 = .ok (.sipush 223, 3) := by decide +kernel
theorem d1_38 : decode prog_60_method_2_code 38 = .ok (.if_icmp .gt 9, 3) := by decide +kernel
theorem d1_41 : decode prog_60_method_2_code 41 = .ok (.iconst 2, 1) := by decide +kernel
theorem d1_42 : decode prog_60_method_2_code 42 = .ok (.istore 4, 2) := by decide +kernel
theorem d1_44 : decode prog_60_method_2_code 44 = .ok (.goto 99, 3) := by decide +kernel
theorem d1_47 : decode prog_60_method_2_code 47 = .ok (.iload_n 3, 1) := by decide +kernel
theorem d1_48 : decode prog_60_method_2_code 48 = .ok (.sipush 224, 3) := by decide +kernel
theorem d1_51 : decode prog_60_method_2_code 51 = .ok (.if_icmp .lt 43, 3) := by decide +kernel
theorem d1_54 : decode prog_60_method_2_code 54 = .ok (.iload_n 3, 1) := by decide +kernel
theorem d1_55 : decode prog_60_method_2_code 55 = .ok (.sipush 239, 3) := by decide +kernel
theorem d1_58 : decode prog_60_method_2_code 58 = .ok (.if_icmp .gt 36, 3) := by decide +kernel
theorem d1_61 : decode prog_60_method_2_code 61 = .ok (.iconst 3, 1) := by decide +kernel
theorem d1_62 : decode prog_60_method_2_code 62 = .ok (.istore 4, 2) := by decide +kernel
theorem d1_64 : decode prog_60_method_2_code 64 = .ok (.iload_n 3, 1) := by decide +kernel
theorem d1_65 : decode prog_60_method_2_code 65 = .ok (.sipush 224, 3) := by decide +kernel
theorem d1_68 : decode prog_60_method_2_code 68 = .ok (.if_icmp .ne 11, 3) := by decide +kernel
theorem d1_71 : decode prog_60_method_2_code 71 = .ok (.sipush 160, 3) := by decide +kernel
theorem d1_74 : decode prog_60_method_2_code 74 = .ok (.istore 5, 2) := by decide +kernel
theorem d1_76 : decode prog_60_method_2_code 76 = .ok (.goto 67, 3) := by decide +kernel
theorem d1_79 : decode prog_60_method_2_code 79 = .ok (.iload_n 3, 1) := by decide +kernel
theorem d1_80 : decode prog_60_method_2_code 80 = .ok (.sipush 237, 3) := by decide +kernel
theorem d1_83 : decode prog_60_method_2_code 83 = .ok (.if_icmp .ne 60, 3) := by decide +kernel
theorem d1_86 : decode prog_60_method_2_code 86 = .ok (.sipush 159, 3) := by decide +kernel
theorem d1_89 : decode prog_60_method_2_code 89 = .ok (.istore 6, 2) := by decide +kernel
theorem d1_91 : decode prog_60_method_2_code 91 = .ok (.goto 52, 3) := by decide +kernel
theorem d1_94 : decode prog_60_method_2_code 94 = .ok (.iload_n 3, 1) := by decide +kernel
theorem d1_95 : decode prog_60_method_2_code 95 = .ok (.sipush 240, 3) := by decide +kernel
theorem d1_98 : decode prog_60_method_2_code 98 = .ok (.if_icmp .lt 43, 3) := by decide +kernel
theorem d1_101 : decode prog_60_method_2_code 101 = .ok (.iload_n 3, 1) := by decide +kernel
theorem d1_102 : decode prog_60_method_2_code 102 = .ok (.sipush 244, 3) := by decide +kernel
theorem d1_105 : decode prog_60_method_2_code 105 = .ok (.if_icmp .gt 36, 3) := by decide +kernel
theorem d1_108 : decode prog_60_method_2_code 108 = .ok (.iconst 4, 1) := by decide +kernel
theorem d1_109 : decode prog_60_method_2_code 109 = .ok (.istore 4, 2) := by decide +kernel
theorem d1_111 : decode prog_60_method_2_code 111 = .ok (.iload_n 3, 1) := by decide +kernel
theorem d1_112 : decode prog_60_method_2_code 112 = .ok (.sipush 240, 3) := by decide +kernel
theorem d1_115 : decode prog_60_method_2_code 115 = .ok (.if_icmp .ne 11, 3) := by decide +kernel
theorem d1_118 : decode prog_60_method_2_code 118 = .ok (.sipush 144, 3) := by decide +kernel
theorem d1_121 : decode prog_60_method_2_code 121 = .ok (.istore 5, 2) := by decide +kernel
theorem d1_123 : decode prog_60_method_2_code 123 = .ok (.goto 20, 3) := by decide +kernel
theorem d1_126 : decode prog_60_method_2_code 126 = .ok (.iload_n 3, 1) := by decide +kernel
theorem d1_127 : decode prog_60_method_2_code 127 = .ok (.sipush 244, 3) := by decide +kernel
theorem d1_130 : decode prog_60_method_2_code 130 = .ok (.if_icmp .ne 13, 3) := by decide +kernel
theorem d1_133 : decode prog_60_method_2_code 133 = .ok (.sipush 143, 3) := by decide +kernel
theorem d1_136 : decode prog_60_method_2_code 136 = .ok (.istore 6, 2) := by decide +kernel
theorem d1_138 : decode prog_60_method_2_code 138 = .ok (.goto 5, 3) := by decide +kernel
theorem d1_141 : decode prog_60_method_2_code 141 = .ok (.iconst 0, 1) := by decide +kernel
theorem d1_142 : decode prog_60_method_2_code 142 = .ok (.ireturn, 1) := by decide +kernel
theorem d1_143 : decode prog_60_method_2_code 143 = .ok (.iload_n 2, 1) := by decide +kernel
theorem d1_144 : decode prog_60_method_2_code 144 = .ok (.iload_n 1, 1) := by decide +kernel
theorem d1_145 : decode prog_60_method_2_code 145 = .ok (.isub, 1) := by decide +kernel
theorem d1_146 : decode prog_60_method_2_code 146 = .ok (.iload 4, 2) := by decide +kernel
theorem d1_148 : decode prog_60_method_2_code 148 = .ok (.if_icmp .ge 5, 3) := by decide +kernel
theorem d1_151 : decode prog_60_method_2_code 151 = .ok (.iconst 0, 1) := by decide +kernel
theorem d1_152 : decode prog_60_method_2_code 152 = .ok (.ireturn, 1) := by decide +kernel
theorem d1_153 : decode prog_60_method_2_code 153 = .ok (.aload_n 0, 1) := by decide +kernel
theorem d1_154 : decode prog_60_method_2_code 154 = .ok (.iload_n 1, 1) := by decide +kernel
theorem d1_155 : decode prog_60_method_2_code 155 = .ok (.iconst 1, 1) := by decide +kernel
theorem d1_156 : decode prog_60_method_2_code 156 = .ok (.iadd, 1) := by decide +kernel
theorem d1_157 : decode prog_60_method_2_code 157 = .ok (.baload, 1) := by decide +kernel
theorem d1_158 : decode prog_60_method_2_code 158 = .ok (.sipush 255, 3) := by decide +kernel
theorem d1_161 : decode prog_60_method_2_code 161 = .ok (.iand, 1) := by decide +kernel
theorem d1_162 : decode prog_60_method_2_code 162 = .ok (.istore 7, 2) := by decide +kernel
theorem d1_164 : decode prog_60_method_2_code 164 = .ok (.iload 7, 2) := by decide +kernel
theorem d1_166 : decode prog_60_method_2_code 166 = .ok (.iload 5, 2) := by decide +kernel
theorem d1_168 : decode prog_60_method_2_code 168 = .ok (.if_icmp .lt 10, 3) := by decide +kernel
theorem d1_171 : decode prog_60_method_2_code 171 = .ok (.iload 7, 2) := by decide +kernel
theorem d1_173 : decode prog_60_method_2_code 173 = .ok (.iload 6, 2) := by decide +kernel
theorem d1_175 : decode prog_60_method_2_code 175 = .ok (.if_icmp .le 5, 3) := by decide +kernel
theorem d1_178 : decode prog_60_method_2_code 178 = .ok (.iconst 0, 1) := by decide +kernel
theorem d1_179 : decode prog_60_method_2_code 179 = .ok (.ireturn, 1) := by decide +kernel
theorem d1_180 : decode prog_60_method_2_code 180 = .ok (.iload_n 1, 1) := by decide +kernel
theorem d1_181 : decode prog_60_method_2_code 181 = .ok (.iconst 2, 1) := by decide +kernel
theorem d1_182 : decode prog_60_method_2_code 182 = .ok (.iadd, 1) := by decide +kernel
theorem d1_183 : decode prog_60_method_2_code 183 = .ok (.istore 8, 2) := by decide +kernel
theorem d1_185 : decode prog_60_method_2_code 185 = .ok (.iload 8, 2) := by decide +kernel
theorem d1_187 : decode prog_60_method_2_code 187 = .ok (.iload_n 1, 1) := by decide +kernel
theorem d1_188 : decode prog_60_method_2_code 188 = .ok (.iload 4, 2) := by decide +kernel
theorem d1_190 : decode prog_60_method_2_code 190 = .ok (.iadd, 1) := by decide +kernel
theorem d1_191 : decode prog_60_method_2_code 191 = .ok (.if_icmp .ge 37, 3) := by decide +kernel
theorem d1_194 : decode prog_60_method_2_code 194 = .ok (.aload_n 0, 1) := by decide +kernel
theorem d1_195 : decode prog_60_method_2_code 195 = .ok (.iload 8, 2) := by decide +kernel
theorem d1_197 : decode prog_60_method_2_code 197 = .ok (.baload, 1) := by decide +kernel
theorem d1_198 : decode prog_60_method_2_code 198 = .ok (.sipush 255, 3) := by decide +kernel
theorem d1_201 : decode prog_60_method_2_code 201 = .ok (.iand, 1) := by decide +kernel
theorem d1_202 : decode prog_60_method_2_code 202 = .ok (.istore 9, 2) := by decide +kernel
theorem d1_204 : decode prog_60_method_2_code 204 = .ok (.iload 9, 2) := by decide +kernel
theorem d1_206 : decode prog_60_method_2_code 206 = .ok (.sipush 128, 3) := by decide +kernel
theorem d1_209 : decode prog_60_method_2_code 209 = .ok (.if_icmp .lt 11, 3) := by decide +kernel
theorem d1_212 : decode prog_60_method_2_code 212 = .ok (.iload 9, 2) := by decide +kernel
theorem d1_214 : decode prog_60_method_2_code 214 = .ok (.sipush 191, 3) := by decide +kernel
theorem d1_217 : decode prog_60_method_2_code 217 = .ok (.if_icmp .le 5, 3) := by decide +kernel
theorem d1_220 : decode prog_60_method_2_code 220 = .ok (.iconst 0, 1) := by decide +kernel
theorem d1_221 : decode prog_60_method_2_code 221 = .ok (.ireturn, 1) := by decide +kernel
theorem d1_222 : decode prog_60_method_2_code 222 = .ok (.iinc 8 1, 3) := by decide +kernel
theorem d1_225 : decode prog_60_method_2_code 225 = .ok (.goto (-40), 3) := by decide +kernel
theorem d1_228 : decode prog_60_method_2_code 228 = .ok (.iload 4, 2) := by decide +kernel
theorem d1_230 : decode prog_60_method_2_code 230 = .ok (.ireturn, 1) := by decide +kernel
theorem ef_1 (m : MethodId) (r0 : Addr) (p1 : Int32) (p2 : Int32) : entryFrame m #[(.ref r0), (.int p1), (.int p2)] 10 = mkF m 0 #[.val (.ref r0), .val (.int p1), .val (.int p2), .unset, .unset, .unset, .unset, .unset, .unset, .unset] [] := by (first | (simp [entryFrame, mkF, argsToLocals, Value.category]; done) | rfl)
def own_r1 (p1 : Int32) (p2 : Int32) (f : Nat → Int32) : Int32 := (if ((f p1.toNatClampNeg) &&& (255 : Int32)) < (128 : Int32) then (1 : Int32) else (if ((f p1.toNatClampNeg) &&& (255 : Int32)) < (194 : Int32) then (0 : Int32) else (if (223 : Int32) < ((f p1.toNatClampNeg) &&& (255 : Int32)) then (if (239 : Int32) < ((f p1.toNatClampNeg) &&& (255 : Int32)) then (if (244 : Int32) < ((f p1.toNatClampNeg) &&& (255 : Int32)) then (0 : Int32) else (if (p2 - p1) < (4 : Int32) then (0 : Int32) else (if ((f (p1 + (1 : Int32)).toNatClampNeg) &&& (255 : Int32)) < (if ((f p1.toNatClampNeg) &&& (255 : Int32)) = (240 : Int32) then (144 : Int32) else (128 : Int32)) then (0 : Int32) else (if (if ((f p1.toNatClampNeg) &&& (255 : Int32)) = (240 : Int32) then (191 : Int32) else (if ((f p1.toNatClampNeg) &&& (255 : Int32)) = (244 : Int32) then (143 : Int32) else (191 : Int32))) < ((f (p1 + (1 : Int32)).toNatClampNeg) &&& (255 : Int32)) then (0 : Int32) else (if ((f (p1 + (2 : Int32)).toNatClampNeg) &&& (255 : Int32)) < (128 : Int32) then (0 : Int32) else (if (191 : Int32) < ((f (p1 + (2 : Int32)).toNatClampNeg) &&& (255 : Int32)) then (0 : Int32) else (if ((f ((p1 + (2 : Int32)) + (1 : Int32)).toNatClampNeg) &&& (255 : Int32)) < (128 : Int32) then (0 : Int32) else (if (191 : Int32) < ((f ((p1 + (2 : Int32)) + (1 : Int32)).toNatClampNeg) &&& (255 : Int32)) then (0 : Int32) else (4 : Int32))))))))) else (if (p2 - p1) < (3 : Int32) then (0 : Int32) else (if ((f (p1 + (1 : Int32)).toNatClampNeg) &&& (255 : Int32)) < (if ((f p1.toNatClampNeg) &&& (255 : Int32)) = (224 : Int32) then (160 : Int32) else (128 : Int32)) then (0 : Int32) else (if (if ((f p1.toNatClampNeg) &&& (255 : Int32)) = (224 : Int32) then (191 : Int32) else (if ((f p1.toNatClampNeg) &&& (255 : Int32)) = (237 : Int32) then (159 : Int32) else (191 : Int32))) < ((f (p1 + (1 : Int32)).toNatClampNeg) &&& (255 : Int32)) then (0 : Int32) else (if ((f (p1 + (2 : Int32)).toNatClampNeg) &&& (255 : Int32)) < (128 : Int32) then (0 : Int32) else (if (191 : Int32) < ((f (p1 + (2 : Int32)).toNatClampNeg) &&& (255 : Int32)) then (0 : Int32) else (3 : Int32))))))) else (if (p2 - p1) < (2 : Int32) then (0 : Int32) else (if ((f (p1 + (1 : Int32)).toNatClampNeg) &&& (255 : Int32)) < (128 : Int32) then (0 : Int32) else (if (191 : Int32) < ((f (p1 + (1 : Int32)).toNatClampNeg) &&& (255 : Int32)) then (0 : Int32) else (2 : Int32)))))))
theorem pn0 : plainName "org/tagwright/core/Utf8" = true := by first | (simp [plainName, overriddenIn]; done) | decide +kernel
def Q1 (Z : State) (r0 : Addr) (p1 : Int32) (p2 : Int32) (f : Nat → Int32) (h0 : Heap) (n0 : Nat) (v : Option Value) (h : Heap) (L : List Loc) : Prop := v = some (.int (own_r1 p1 p2 f)) ∧ Fr n0 L ∧ h = h0
set_option maxRecDepth 65536 in
set_option maxHeartbeats 40000000 in
theorem rm1 (l : Launch) (Z : State) (a0 : Array Value) (hw : ∀ d ∈ tables_1, d.before a0 Z = true) (ws : List Jvm.Cond) (r0 : Addr) (p1 : Int32) (p2 : Int32) (f : Nat → Int32) (h0 : Heap) (n0 : Nat) (Z0 : n0 ≤ h0.size) (A_r0 : own_AI Z h0 r0 .byte 5 f) (hp : p1 = 0 ∨ p1 = 1) :
    MetFree l (⟨"org/tagwright/core/Utf8", "sequenceLength", "([BII)I"⟩ : MethodName) (head1 (Jvm.Cond.code (⟨"org/tagwright/core/Utf8", "sequenceLength", "([BII)I"⟩ : MethodName) prog_60_method_2_code 10 (some .int) :: ws) ({ frames := 0, cells := 0, slots := 0, locals := 0 } : Room)) (fun a U => a = #[(.ref r0), (.int p1), (.int p2)] ∧ Z.Warmed39 U.vm ∧ U.heap = h0) (fun _ _ _ _ _ => True) (fun _ U o U' => ∃ v L, o = .returned v ∧ Q1 Z r0 p1 p2 f h0 n0 v U'.heap L ∧ FrameEnd U o U' L ({ frames := 0, cells := 0, slots := 0, locals := 0 } : Room).cells ({ frames := 0, cells := 0, slots := 0, locals := 0 } : Room).slots) := by
  refine MetFree.of_bodySF (plainFor_of_name pn0) hisR ?_
  intro p e s m args below meth c s₁ Bd hml0 hP hK
  obtain ⟨rfl, hZ, hh⟩ := hP
  have hx := Bd.exec
  have hby := Bd.bytes
  have hml : c.maxLocals = 10 := hml0
  have hown : s.vm.findClass "org/tagwright/core/Utf8" = some m.cls := findClass_of_methodNamed Bd.named
  have hnm := (name_of_methodNamed Bd.named Bd.method).1
  have X0 : Stand p l e ({ frames := 0, cells := 0, slots := 0, locals := 0 } : Room) s m #[(.ref r0), (.int p1), (.int p2)] below meth c s₁ [] 0 0 := Stand.of_body Bd
  have e0 : s₁.heap = h0 := by rw [← hh, Bd.state]; rfl
  have N0 := Fr.nil n0
  have K0 : Keep h0 h0 [] := Keep.refl h0 _
  show own_Go p e below s (Q1 Z r0 p1 p2 f h0 n0) ({ frames := 0, cells := 0, slots := 0, locals := 0 } : Room).cells ({ frames := 0, cells := 0, slots := 0, locals := 0 } : Room).slots (s₁.setTop (entryFrame m #[(.ref r0), (.int p1), (.int p2)] 10))
  refine own_go (fun t k => castTop (ef_1 m r0 p1 p2) k) ?_
  have hin2_101 : ¬ p1 < 0 ∧ p1.toNatClampNeg < 5 := by rcases hp with q | q <;> rw [q] <;> decide
  obtain ⟨v1, hv1⟩ : ∃ z : Int32, z = ((f p1.toNatClampNeg) &&& (255 : Int32)) := ⟨_, rfl⟩
  have hgo102 : ∀ t, Steps p.tables e below (s₁.setTop (mkF m 12 #[.val (.ref r0), .val (.int p1), .val (.int p2), .val (.int v1), .unset, .unset, .unset, .unset, .unset, .unset] [(.int (128 : Int32)), (.int v1)])) t → Steps p.tables e below (s₁.setTop (mkF m 0 #[.val (.ref r0), .val (.int p1), .val (.int p2), .unset, .unset, .unset, .unset, .unset, .unset, .unset] [])) t := by
    intro t kt
    show Steps p.tables e below (s₁.setTop (mkF m 0 #[.val (.ref r0), .val (.int p1), .val (.int p2), .unset, .unset, .unset, .unset, .unset, .unset, .unset] [])) _
    refine XS.aloadN X0.here hx rfl (hb hby d1_0) rfl rfl ?_
    show Steps p.tables e below (s₁.setTop (mkF m 1 #[.val (.ref r0), .val (.int p1), .val (.int p2), .unset, .unset, .unset, .unset, .unset, .unset, .unset] [(.ref r0)])) _
    refine XS.iloadN X0.here hx rfl (hb hby d1_1) rfl ?_
    show Steps p.tables e below (s₁.setTop (mkF m 2 #[.val (.ref r0), .val (.int p1), .val (.int p2), .unset, .unset, .unset, .unset, .unset, .unset, .unset] [(.int p1), (.ref r0)])) _
    refine own_ldB X0 hx hZ e0 A_r0 (j := p1) hin2_101 (g := (mkF m 2 #[.val (.ref r0), .val (.int p1), .val (.int p2), .unset, .unset, .unset, .unset, .unset, .unset, .unset] [(.int p1), (.ref r0)])) rfl rfl (hb hby d1_2) _ ?_
    show Steps p.tables e below (s₁.setTop (mkF m 3 #[.val (.ref r0), .val (.int p1), .val (.int p2), .unset, .unset, .unset, .unset, .unset, .unset, .unset] [(.int (f p1.toNatClampNeg))])) _
    refine XS.sipush X0.here hx rfl (hb hby d1_3) ?_
    show Steps p.tables e below (s₁.setTop (mkF m 6 #[.val (.ref r0), .val (.int p1), .val (.int p2), .unset, .unset, .unset, .unset, .unset, .unset, .unset] [(.int (255 : Int32)), (.int (f p1.toNatClampNeg))])) _
    refine XS.iand X0.here hx rfl (hb hby d1_6) rfl ?_
    show Steps p.tables e below (s₁.setTop (mkF m 7 #[.val (.ref r0), .val (.int p1), .val (.int p2), .unset, .unset, .unset, .unset, .unset, .unset, .unset] [(.int ((f p1.toNatClampNeg) &&& (255 : Int32)))])) _
    rw [← hv1]
    show Steps p.tables e below (s₁.setTop (mkF m 7 #[.val (.ref r0), .val (.int p1), .val (.int p2), .unset, .unset, .unset, .unset, .unset, .unset, .unset] [(.int v1)])) _
    refine XS.istoreN X0.here hx rfl (hb hby d1_7) rfl (l' := #[.val (.ref r0), .val (.int p1), .val (.int p2), .val (.int v1), .unset, .unset, .unset, .unset, .unset, .unset]) rfl ?_
    show Steps p.tables e below (s₁.setTop (mkF m 8 #[.val (.ref r0), .val (.int p1), .val (.int p2), .val (.int v1), .unset, .unset, .unset, .unset, .unset, .unset] [])) _
    refine XS.iloadN X0.here hx rfl (hb hby d1_8) rfl ?_
    show Steps p.tables e below (s₁.setTop (mkF m 9 #[.val (.ref r0), .val (.int p1), .val (.int p2), .val (.int v1), .unset, .unset, .unset, .unset, .unset, .unset] [(.int v1)])) _
    refine XS.sipush X0.here hx rfl (hb hby d1_9) ?_
    exact kt
  refine own_go hgo102 ?_
  by_cases hc12_2 : v1 < (128 : Int32)
  · have hgo103 : ∀ t, Steps p.tables e below (s₁.setTop (mkF m 16 #[.val (.ref r0), .val (.int p1), .val (.int p2), .val (.int v1), .unset, .unset, .unset, .unset, .unset, .unset] [(.int (1 : Int32))])) t → Steps p.tables e below (s₁.setTop (mkF m 12 #[.val (.ref r0), .val (.int p1), .val (.int p2), .val (.int v1), .unset, .unset, .unset, .unset, .unset, .unset] [(.int (128 : Int32)), (.int v1)])) t := by
      intro t kt
      show Steps p.tables e below (s₁.setTop (mkF m 12 #[.val (.ref r0), .val (.int p1), .val (.int p2), .val (.int v1), .unset, .unset, .unset, .unset, .unset, .unset] [(.int (128 : Int32)), (.int v1)])) _
      refine XS.icmpNo X0.here hx rfl (hb hby d1_12) rfl (tlt hc12_2).2.1 ?_
      show Steps p.tables e below (s₁.setTop (mkF m 15 #[.val (.ref r0), .val (.int p1), .val (.int p2), .val (.int v1), .unset, .unset, .unset, .unset, .unset, .unset] [])) _
      refine XS.iconst X0.here hx rfl (hb hby d1_15) ?_
      exact kt
    refine own_go hgo103 ?_
    exact own_retI X0 hx Bd.returns Bd.notSynchronized (hb hby d1_16) (by decide) (by decide) (by rw [e0]; exact ⟨(by subst hv1; rw [own_r1, if_pos hc12_2]), N0, rfl⟩)
  · have hgo104 : ∀ t, Steps p.tables e below (s₁.setTop (mkF m 31 #[.val (.ref r0), .val (.int p1), .val (.int p2), .val (.int v1), .unset, .val (.int (128 : Int32)), .val (.int (191 : Int32)), .unset, .unset, .unset] [(.int (194 : Int32)), (.int v1)])) t → Steps p.tables e below (s₁.setTop (mkF m 12 #[.val (.ref r0), .val (.int p1), .val (.int p2), .val (.int v1), .unset, .unset, .unset, .unset, .unset, .unset] [(.int (128 : Int32)), (.int v1)])) t := by
      intro t kt
      show Steps p.tables e below (s₁.setTop (mkF m 12 #[.val (.ref r0), .val (.int p1), .val (.int p2), .val (.int v1), .unset, .unset, .unset, .unset, .unset, .unset] [(.int (128 : Int32)), (.int v1)])) _
      refine XS.icmpYes X0.here hx rfl (pc0 := 12) (pc' := 17) rfl (hb hby d1_12) rfl (flt hc12_2).2.1 (by decide) (by decide) ?_
      show Steps p.tables e below (s₁.setTop (mkF m 17 #[.val (.ref r0), .val (.int p1), .val (.int p2), .val (.int v1), .unset, .unset, .unset, .unset, .unset, .unset] [])) _
      refine XS.sipush X0.here hx rfl (hb hby d1_17) ?_
      show Steps p.tables e below (s₁.setTop (mkF m 20 #[.val (.ref r0), .val (.int p1), .val (.int p2), .val (.int v1), .unset, .unset, .unset, .unset, .unset, .unset] [(.int (128 : Int32))])) _
      refine XS.istore X0.here hx rfl (hb hby d1_20) rfl (l' := #[.val (.ref r0), .val (.int p1), .val (.int p2), .val (.int v1), .unset, .val (.int (128 : Int32)), .unset, .unset, .unset, .unset]) rfl ?_
      show Steps p.tables e below (s₁.setTop (mkF m 22 #[.val (.ref r0), .val (.int p1), .val (.int p2), .val (.int v1), .unset, .val (.int (128 : Int32)), .unset, .unset, .unset, .unset] [])) _
      refine XS.sipush X0.here hx rfl (hb hby d1_22) ?_
      show Steps p.tables e below (s₁.setTop (mkF m 25 #[.val (.ref r0), .val (.int p1), .val (.int p2), .val (.int v1), .unset, .val (.int (128 : Int32)), .unset, .unset, .unset, .unset] [(.int (191 : Int32))])) _
      refine XS.istore X0.here hx rfl (hb hby d1_25) rfl (l' := #[.val (.ref r0), .val (.int p1), .val (.int p2), .val (.int v1), .unset, .val (.int (128 : Int32)), .val (.int (191 : Int32)), .unset, .unset, .unset]) rfl ?_
      show Steps p.tables e below (s₁.setTop (mkF m 27 #[.val (.ref r0), .val (.int p1), .val (.int p2), .val (.int v1), .unset, .val (.int (128 : Int32)), .val (.int (191 : Int32)), .unset, .unset, .unset] [])) _
      refine XS.iloadN X0.here hx rfl (hb hby d1_27) rfl ?_
      show Steps p.tables e below (s₁.setTop (mkF m 28 #[.val (.ref r0), .val (.int p1), .val (.int p2), .val (.int v1), .unset, .val (.int (128 : Int32)), .val (.int (191 : Int32)), .unset, .unset, .unset] [(.int v1)])) _
      refine XS.sipush X0.here hx rfl (hb hby d1_28) ?_
      exact kt
    refine own_go hgo104 ?_
    by_cases hc31_3 : v1 < (194 : Int32)
    · have hgo105 : ∀ t, Steps p.tables e below (s₁.setTop (mkF m 142 #[.val (.ref r0), .val (.int p1), .val (.int p2), .val (.int v1), .unset, .val (.int (128 : Int32)), .val (.int (191 : Int32)), .unset, .unset, .unset] [(.int (0 : Int32))])) t → Steps p.tables e below (s₁.setTop (mkF m 31 #[.val (.ref r0), .val (.int p1), .val (.int p2), .val (.int v1), .unset, .val (.int (128 : Int32)), .val (.int (191 : Int32)), .unset, .unset, .unset] [(.int (194 : Int32)), (.int v1)])) t := by
        intro t kt
        show Steps p.tables e below (s₁.setTop (mkF m 31 #[.val (.ref r0), .val (.int p1), .val (.int p2), .val (.int v1), .unset, .val (.int (128 : Int32)), .val (.int (191 : Int32)), .unset, .unset, .unset] [(.int (194 : Int32)), (.int v1)])) _
        refine XS.icmpYes X0.here hx rfl (pc0 := 31) (pc' := 47) rfl (hb hby d1_31) rfl (tlt hc31_3).1 (by decide) (by decide) ?_
        show Steps p.tables e below (s₁.setTop (mkF m 47 #[.val (.ref r0), .val (.int p1), .val (.int p2), .val (.int v1), .unset, .val (.int (128 : Int32)), .val (.int (191 : Int32)), .unset, .unset, .unset] [])) _
        refine XS.iloadN X0.here hx rfl (hb hby d1_47) rfl ?_
        show Steps p.tables e below (s₁.setTop (mkF m 48 #[.val (.ref r0), .val (.int p1), .val (.int p2), .val (.int v1), .unset, .val (.int (128 : Int32)), .val (.int (191 : Int32)), .unset, .unset, .unset] [(.int v1)])) _
        refine XS.sipush X0.here hx rfl (hb hby d1_48) ?_
        show Steps p.tables e below (s₁.setTop (mkF m 51 #[.val (.ref r0), .val (.int p1), .val (.int p2), .val (.int v1), .unset, .val (.int (128 : Int32)), .val (.int (191 : Int32)), .unset, .unset, .unset] [(.int (224 : Int32)), (.int v1)])) _
        refine XS.icmpYes X0.here hx rfl (pc0 := 51) (pc' := 94) rfl (hb hby d1_51) rfl (tlt (by have y0 := hc31_3; simp only [Int32.lt_iff_toInt_lt, ← Int32.toInt_inj, Int32.reduceToInt] at y0 ⊢; omega : v1 < (224 : Int32))).1 (by decide) (by decide) ?_
        show Steps p.tables e below (s₁.setTop (mkF m 94 #[.val (.ref r0), .val (.int p1), .val (.int p2), .val (.int v1), .unset, .val (.int (128 : Int32)), .val (.int (191 : Int32)), .unset, .unset, .unset] [])) _
        refine XS.iloadN X0.here hx rfl (hb hby d1_94) rfl ?_
        show Steps p.tables e below (s₁.setTop (mkF m 95 #[.val (.ref r0), .val (.int p1), .val (.int p2), .val (.int v1), .unset, .val (.int (128 : Int32)), .val (.int (191 : Int32)), .unset, .unset, .unset] [(.int v1)])) _
        refine XS.sipush X0.here hx rfl (hb hby d1_95) ?_
        show Steps p.tables e below (s₁.setTop (mkF m 98 #[.val (.ref r0), .val (.int p1), .val (.int p2), .val (.int v1), .unset, .val (.int (128 : Int32)), .val (.int (191 : Int32)), .unset, .unset, .unset] [(.int (240 : Int32)), (.int v1)])) _
        refine XS.icmpYes X0.here hx rfl (pc0 := 98) (pc' := 141) rfl (hb hby d1_98) rfl (tlt (by have y0 := hc31_3; simp only [Int32.lt_iff_toInt_lt, ← Int32.toInt_inj, Int32.reduceToInt] at y0 ⊢; omega : v1 < (240 : Int32))).1 (by decide) (by decide) ?_
        show Steps p.tables e below (s₁.setTop (mkF m 141 #[.val (.ref r0), .val (.int p1), .val (.int p2), .val (.int v1), .unset, .val (.int (128 : Int32)), .val (.int (191 : Int32)), .unset, .unset, .unset] [])) _
        refine XS.iconst X0.here hx rfl (hb hby d1_141) ?_
        exact kt
      refine own_go hgo105 ?_
      exact own_retI X0 hx Bd.returns Bd.notSynchronized (hb hby d1_142) (by decide) (by decide) (by rw [e0]; exact ⟨(by subst hv1; rw [own_r1, if_neg hc12_2, if_pos hc31_3]), N0, rfl⟩)
    · have hgo106 : ∀ t, Steps p.tables e below (s₁.setTop (mkF m 38 #[.val (.ref r0), .val (.int p1), .val (.int p2), .val (.int v1), .unset, .val (.int (128 : Int32)), .val (.int (191 : Int32)), .unset, .unset, .unset] [(.int (223 : Int32)), (.int v1)])) t → Steps p.tables e below (s₁.setTop (mkF m 31 #[.val (.ref r0), .val (.int p1), .val (.int p2), .val (.int v1), .unset, .val (.int (128 : Int32)), .val (.int (191 : Int32)), .unset, .unset, .unset] [(.int (194 : Int32)), (.int v1)])) t := by
        intro t kt
        show Steps p.tables e below (s₁.setTop (mkF m 31 #[.val (.ref r0), .val (.int p1), .val (.int p2), .val (.int v1), .unset, .val (.int (128 : Int32)), .val (.int (191 : Int32)), .unset, .unset, .unset] [(.int (194 : Int32)), (.int v1)])) _
        refine XS.icmpNo X0.here hx rfl (hb hby d1_31) rfl (flt hc31_3).1 ?_
        show Steps p.tables e below (s₁.setTop (mkF m 34 #[.val (.ref r0), .val (.int p1), .val (.int p2), .val (.int v1), .unset, .val (.int (128 : Int32)), .val (.int (191 : Int32)), .unset, .unset, .unset] [])) _
        refine XS.iloadN X0.here hx rfl (hb hby d1_34) rfl ?_
        show Steps p.tables e below (s₁.setTop (mkF m 35 #[.val (.ref r0), .val (.int p1), .val (.int p2), .val (.int v1), .unset, .val (.int (128 : Int32)), .val (.int (191 : Int32)), .unset, .unset, .unset] [(.int v1)])) _
        refine XS.sipush X0.here hx rfl (hb hby d1_35) ?_
        exact kt
      refine own_go hgo106 ?_
      by_cases hc38_4 : (223 : Int32) < v1
      · have hgo107 : ∀ t, Steps p.tables e below (s₁.setTop (mkF m 58 #[.val (.ref r0), .val (.int p1), .val (.int p2), .val (.int v1), .unset, .val (.int (128 : Int32)), .val (.int (191 : Int32)), .unset, .unset, .unset] [(.int (239 : Int32)), (.int v1)])) t → Steps p.tables e below (s₁.setTop (mkF m 38 #[.val (.ref r0), .val (.int p1), .val (.int p2), .val (.int v1), .unset, .val (.int (128 : Int32)), .val (.int (191 : Int32)), .unset, .unset, .unset] [(.int (223 : Int32)), (.int v1)])) t := by
          intro t kt
          show Steps p.tables e below (s₁.setTop (mkF m 38 #[.val (.ref r0), .val (.int p1), .val (.int p2), .val (.int v1), .unset, .val (.int (128 : Int32)), .val (.int (191 : Int32)), .unset, .unset, .unset] [(.int (223 : Int32)), (.int v1)])) _
          refine XS.icmpYes X0.here hx rfl (pc0 := 38) (pc' := 47) rfl (hb hby d1_38) rfl (tlt hc38_4).2.2.1 (by decide) (by decide) ?_
          show Steps p.tables e below (s₁.setTop (mkF m 47 #[.val (.ref r0), .val (.int p1), .val (.int p2), .val (.int v1), .unset, .val (.int (128 : Int32)), .val (.int (191 : Int32)), .unset, .unset, .unset] [])) _
          refine XS.iloadN X0.here hx rfl (hb hby d1_47) rfl ?_
          show Steps p.tables e below (s₁.setTop (mkF m 48 #[.val (.ref r0), .val (.int p1), .val (.int p2), .val (.int v1), .unset, .val (.int (128 : Int32)), .val (.int (191 : Int32)), .unset, .unset, .unset] [(.int v1)])) _
          refine XS.sipush X0.here hx rfl (hb hby d1_48) ?_
          show Steps p.tables e below (s₁.setTop (mkF m 51 #[.val (.ref r0), .val (.int p1), .val (.int p2), .val (.int v1), .unset, .val (.int (128 : Int32)), .val (.int (191 : Int32)), .unset, .unset, .unset] [(.int (224 : Int32)), (.int v1)])) _
          refine XS.icmpNo X0.here hx rfl (hb hby d1_51) rfl (flt (by have y0 := hc38_4; simp only [Int32.lt_iff_toInt_lt, ← Int32.toInt_inj, Int32.reduceToInt] at y0 ⊢; omega : ¬ (v1 < (224 : Int32)))).1 ?_
          show Steps p.tables e below (s₁.setTop (mkF m 54 #[.val (.ref r0), .val (.int p1), .val (.int p2), .val (.int v1), .unset, .val (.int (128 : Int32)), .val (.int (191 : Int32)), .unset, .unset, .unset] [])) _
          refine XS.iloadN X0.here hx rfl (hb hby d1_54) rfl ?_
          show Steps p.tables e below (s₁.setTop (mkF m 55 #[.val (.ref r0), .val (.int p1), .val (.int p2), .val (.int v1), .unset, .val (.int (128 : Int32)), .val (.int (191 : Int32)), .unset, .unset, .unset] [(.int v1)])) _
          refine XS.sipush X0.here hx rfl (hb hby d1_55) ?_
          exact kt
        refine own_go hgo107 ?_
        by_cases hc58_5 : (239 : Int32) < v1
        · have hgo108 : ∀ t, Steps p.tables e below (s₁.setTop (mkF m 105 #[.val (.ref r0), .val (.int p1), .val (.int p2), .val (.int v1), .unset, .val (.int (128 : Int32)), .val (.int (191 : Int32)), .unset, .unset, .unset] [(.int (244 : Int32)), (.int v1)])) t → Steps p.tables e below (s₁.setTop (mkF m 58 #[.val (.ref r0), .val (.int p1), .val (.int p2), .val (.int v1), .unset, .val (.int (128 : Int32)), .val (.int (191 : Int32)), .unset, .unset, .unset] [(.int (239 : Int32)), (.int v1)])) t := by
            intro t kt
            show Steps p.tables e below (s₁.setTop (mkF m 58 #[.val (.ref r0), .val (.int p1), .val (.int p2), .val (.int v1), .unset, .val (.int (128 : Int32)), .val (.int (191 : Int32)), .unset, .unset, .unset] [(.int (239 : Int32)), (.int v1)])) _
            refine XS.icmpYes X0.here hx rfl (pc0 := 58) (pc' := 94) rfl (hb hby d1_58) rfl (tlt hc58_5).2.2.1 (by decide) (by decide) ?_
            show Steps p.tables e below (s₁.setTop (mkF m 94 #[.val (.ref r0), .val (.int p1), .val (.int p2), .val (.int v1), .unset, .val (.int (128 : Int32)), .val (.int (191 : Int32)), .unset, .unset, .unset] [])) _
            refine XS.iloadN X0.here hx rfl (hb hby d1_94) rfl ?_
            show Steps p.tables e below (s₁.setTop (mkF m 95 #[.val (.ref r0), .val (.int p1), .val (.int p2), .val (.int v1), .unset, .val (.int (128 : Int32)), .val (.int (191 : Int32)), .unset, .unset, .unset] [(.int v1)])) _
            refine XS.sipush X0.here hx rfl (hb hby d1_95) ?_
            show Steps p.tables e below (s₁.setTop (mkF m 98 #[.val (.ref r0), .val (.int p1), .val (.int p2), .val (.int v1), .unset, .val (.int (128 : Int32)), .val (.int (191 : Int32)), .unset, .unset, .unset] [(.int (240 : Int32)), (.int v1)])) _
            refine XS.icmpNo X0.here hx rfl (hb hby d1_98) rfl (flt (by have y0 := hc58_5; simp only [Int32.lt_iff_toInt_lt, ← Int32.toInt_inj, Int32.reduceToInt] at y0 ⊢; omega : ¬ (v1 < (240 : Int32)))).1 ?_
            show Steps p.tables e below (s₁.setTop (mkF m 101 #[.val (.ref r0), .val (.int p1), .val (.int p2), .val (.int v1), .unset, .val (.int (128 : Int32)), .val (.int (191 : Int32)), .unset, .unset, .unset] [])) _
            refine XS.iloadN X0.here hx rfl (hb hby d1_101) rfl ?_
            show Steps p.tables e below (s₁.setTop (mkF m 102 #[.val (.ref r0), .val (.int p1), .val (.int p2), .val (.int v1), .unset, .val (.int (128 : Int32)), .val (.int (191 : Int32)), .unset, .unset, .unset] [(.int v1)])) _
            refine XS.sipush X0.here hx rfl (hb hby d1_102) ?_
            exact kt
          refine own_go hgo108 ?_
          by_cases hc105_6 : (244 : Int32) < v1
          · have hgo109 : ∀ t, Steps p.tables e below (s₁.setTop (mkF m 142 #[.val (.ref r0), .val (.int p1), .val (.int p2), .val (.int v1), .unset, .val (.int (128 : Int32)), .val (.int (191 : Int32)), .unset, .unset, .unset] [(.int (0 : Int32))])) t → Steps p.tables e below (s₁.setTop (mkF m 105 #[.val (.ref r0), .val (.int p1), .val (.int p2), .val (.int v1), .unset, .val (.int (128 : Int32)), .val (.int (191 : Int32)), .unset, .unset, .unset] [(.int (244 : Int32)), (.int v1)])) t := by
              intro t kt
              show Steps p.tables e below (s₁.setTop (mkF m 105 #[.val (.ref r0), .val (.int p1), .val (.int p2), .val (.int v1), .unset, .val (.int (128 : Int32)), .val (.int (191 : Int32)), .unset, .unset, .unset] [(.int (244 : Int32)), (.int v1)])) _
              refine XS.icmpYes X0.here hx rfl (pc0 := 105) (pc' := 141) rfl (hb hby d1_105) rfl (tlt hc105_6).2.2.1 (by decide) (by decide) ?_
              show Steps p.tables e below (s₁.setTop (mkF m 141 #[.val (.ref r0), .val (.int p1), .val (.int p2), .val (.int v1), .unset, .val (.int (128 : Int32)), .val (.int (191 : Int32)), .unset, .unset, .unset] [])) _
              refine XS.iconst X0.here hx rfl (hb hby d1_141) ?_
              exact kt
            refine own_go hgo109 ?_
            exact own_retI X0 hx Bd.returns Bd.notSynchronized (hb hby d1_142) (by decide) (by decide) (by rw [e0]; exact ⟨(by subst hv1; rw [own_r1, if_neg hc12_2, if_neg hc31_3, if_pos hc38_4, if_pos hc58_5, if_pos hc105_6]), N0, rfl⟩)
          · obtain ⟨v9, hv9⟩ : ∃ z : Int32, z = (if v1 = (244 : Int32) then (143 : Int32) else (191 : Int32)) := ⟨_, rfl⟩
            obtain ⟨v10, hv10⟩ : ∃ z : Int32, z = (if v1 = (240 : Int32) then (144 : Int32) else (128 : Int32)) := ⟨_, rfl⟩
            obtain ⟨v11, hv11⟩ : ∃ z : Int32, z = (if v1 = (240 : Int32) then (191 : Int32) else v9) := ⟨_, rfl⟩
            obtain ⟨T115, lc115, X115, N115, e115, st115⟩ := own_mrg (n0 := n0) (h := h0) (g := (mkF m 115 #[.val (.ref r0), .val (.int p1), .val (.int p2), .val (.int v1), .val (.int (4 : Int32)), .val (.int (128 : Int32)), .val (.int (191 : Int32)), .unset, .unset, .unset] [(.int (240 : Int32)), (.int v1)])) (g' := (mkF m 143 #[.val (.ref r0), .val (.int p1), .val (.int p2), .val (.int v1), .val (.int (4 : Int32)), .val (.int v10), .val (.int v11), .unset, .unset, .unset] [])) X0 (by
              by_cases hc115_7 : v1 = (240 : Int32)
              · have hgo110 : ∀ t, Steps p.tables e below (s₁.setTop (mkF m 143 #[.val (.ref r0), .val (.int p1), .val (.int p2), .val (.int v1), .val (.int (4 : Int32)), .val (.int (144 : Int32)), .val (.int (191 : Int32)), .unset, .unset, .unset] [])) t → Steps p.tables e below (s₁.setTop (mkF m 115 #[.val (.ref r0), .val (.int p1), .val (.int p2), .val (.int v1), .val (.int (4 : Int32)), .val (.int (128 : Int32)), .val (.int (191 : Int32)), .unset, .unset, .unset] [(.int (240 : Int32)), (.int v1)])) t := by
                  intro t kt
                  show Steps p.tables e below (s₁.setTop (mkF m 115 #[.val (.ref r0), .val (.int p1), .val (.int p2), .val (.int v1), .val (.int (4 : Int32)), .val (.int (128 : Int32)), .val (.int (191 : Int32)), .unset, .unset, .unset] [(.int (240 : Int32)), (.int v1)])) _
                  refine XS.icmpNo X0.here hx rfl (hb hby d1_115) rfl (teq hc115_7).2 ?_
                  show Steps p.tables e below (s₁.setTop (mkF m 118 #[.val (.ref r0), .val (.int p1), .val (.int p2), .val (.int v1), .val (.int (4 : Int32)), .val (.int (128 : Int32)), .val (.int (191 : Int32)), .unset, .unset, .unset] [])) _
                  refine XS.sipush X0.here hx rfl (hb hby d1_118) ?_
                  show Steps p.tables e below (s₁.setTop (mkF m 121 #[.val (.ref r0), .val (.int p1), .val (.int p2), .val (.int v1), .val (.int (4 : Int32)), .val (.int (128 : Int32)), .val (.int (191 : Int32)), .unset, .unset, .unset] [(.int (144 : Int32))])) _
                  refine XS.istore X0.here hx rfl (hb hby d1_121) rfl (l' := #[.val (.ref r0), .val (.int p1), .val (.int p2), .val (.int v1), .val (.int (4 : Int32)), .val (.int (144 : Int32)), .val (.int (191 : Int32)), .unset, .unset, .unset]) rfl ?_
                  show Steps p.tables e below (s₁.setTop (mkF m 123 #[.val (.ref r0), .val (.int p1), .val (.int p2), .val (.int v1), .val (.int (4 : Int32)), .val (.int (144 : Int32)), .val (.int (191 : Int32)), .unset, .unset, .unset] [])) _
                  refine XS.goto X0.here hx rfl (pc0 := 123) (pc' := 143) rfl (hb hby d1_123) (by decide) (by decide) ?_
                  exact kt
                refine own_arm hgo110 ?_
                exact own_armEnd X0 N0 e0 (by rw [hv10.trans (if_pos hc115_7), hv11.trans (if_pos hc115_7)])
              · obtain ⟨T113, lc113, X113, N113, e113, st113⟩ := own_mrg (n0 := n0) (h := h0) (g := (mkF m 130 #[.val (.ref r0), .val (.int p1), .val (.int p2), .val (.int v1), .val (.int (4 : Int32)), .val (.int (128 : Int32)), .val (.int (191 : Int32)), .unset, .unset, .unset] [(.int (244 : Int32)), (.int v1)])) (g' := (mkF m 143 #[.val (.ref r0), .val (.int p1), .val (.int p2), .val (.int v1), .val (.int (4 : Int32)), .val (.int (128 : Int32)), .val (.int v9), .unset, .unset, .unset] [])) X0 (by
                  by_cases hc130_8 : v1 = (244 : Int32)
                  · have hgo111 : ∀ t, Steps p.tables e below (s₁.setTop (mkF m 143 #[.val (.ref r0), .val (.int p1), .val (.int p2), .val (.int v1), .val (.int (4 : Int32)), .val (.int (128 : Int32)), .val (.int (143 : Int32)), .unset, .unset, .unset] [])) t → Steps p.tables e below (s₁.setTop (mkF m 130 #[.val (.ref r0), .val (.int p1), .val (.int p2), .val (.int v1), .val (.int (4 : Int32)), .val (.int (128 : Int32)), .val (.int (191 : Int32)), .unset, .unset, .unset] [(.int (244 : Int32)), (.int v1)])) t := by
                      intro t kt
                      show Steps p.tables e below (s₁.setTop (mkF m 130 #[.val (.ref r0), .val (.int p1), .val (.int p2), .val (.int v1), .val (.int (4 : Int32)), .val (.int (128 : Int32)), .val (.int (191 : Int32)), .unset, .unset, .unset] [(.int (244 : Int32)), (.int v1)])) _
                      refine XS.icmpNo X0.here hx rfl (hb hby d1_130) rfl (teq hc130_8).2 ?_
                      show Steps p.tables e below (s₁.setTop (mkF m 133 #[.val (.ref r0), .val (.int p1), .val (.int p2), .val (.int v1), .val (.int (4 : Int32)), .val (.int (128 : Int32)), .val (.int (191 : Int32)), .unset, .unset, .unset] [])) _
                      refine XS.sipush X0.here hx rfl (hb hby d1_133) ?_
                      show Steps p.tables e below (s₁.setTop (mkF m 136 #[.val (.ref r0), .val (.int p1), .val (.int p2), .val (.int v1), .val (.int (4 : Int32)), .val (.int (128 : Int32)), .val (.int (191 : Int32)), .unset, .unset, .unset] [(.int (143 : Int32))])) _
                      refine XS.istore X0.here hx rfl (hb hby d1_136) rfl (l' := #[.val (.ref r0), .val (.int p1), .val (.int p2), .val (.int v1), .val (.int (4 : Int32)), .val (.int (128 : Int32)), .val (.int (143 : Int32)), .unset, .unset, .unset]) rfl ?_
                      show Steps p.tables e below (s₁.setTop (mkF m 138 #[.val (.ref r0), .val (.int p1), .val (.int p2), .val (.int v1), .val (.int (4 : Int32)), .val (.int (128 : Int32)), .val (.int (143 : Int32)), .unset, .unset, .unset] [])) _
                      refine XS.goto X0.here hx rfl (pc0 := 138) (pc' := 143) rfl (hb hby d1_138) (by decide) (by decide) ?_
                      exact kt
                    refine own_arm hgo111 ?_
                    exact own_armEnd X0 N0 e0 (by rw [hv9.trans (if_pos hc130_8)])
                  · have hgo112 : ∀ t, Steps p.tables e below (s₁.setTop (mkF m 143 #[.val (.ref r0), .val (.int p1), .val (.int p2), .val (.int v1), .val (.int (4 : Int32)), .val (.int (128 : Int32)), .val (.int (191 : Int32)), .unset, .unset, .unset] [])) t → Steps p.tables e below (s₁.setTop (mkF m 130 #[.val (.ref r0), .val (.int p1), .val (.int p2), .val (.int v1), .val (.int (4 : Int32)), .val (.int (128 : Int32)), .val (.int (191 : Int32)), .unset, .unset, .unset] [(.int (244 : Int32)), (.int v1)])) t := by
                      intro t kt
                      show Steps p.tables e below (s₁.setTop (mkF m 130 #[.val (.ref r0), .val (.int p1), .val (.int p2), .val (.int v1), .val (.int (4 : Int32)), .val (.int (128 : Int32)), .val (.int (191 : Int32)), .unset, .unset, .unset] [(.int (244 : Int32)), (.int v1)])) _
                      refine XS.icmpYes X0.here hx rfl (pc0 := 130) (pc' := 143) rfl (hb hby d1_130) rfl (feq hc130_8).2 (by decide) (by decide) ?_
                      exact kt
                    refine own_arm hgo112 ?_
                    exact own_armEnd X0 N0 e0 (by rw [hv9.trans (if_neg hc130_8)]))
                have hgo114 : ∀ t, Steps p.tables e below (T113.setTop (mkF m 143 #[.val (.ref r0), .val (.int p1), .val (.int p2), .val (.int v1), .val (.int (4 : Int32)), .val (.int (128 : Int32)), .val (.int v9), .unset, .unset, .unset] [])) t → Steps p.tables e below (s₁.setTop (mkF m 115 #[.val (.ref r0), .val (.int p1), .val (.int p2), .val (.int v1), .val (.int (4 : Int32)), .val (.int (128 : Int32)), .val (.int (191 : Int32)), .unset, .unset, .unset] [(.int (240 : Int32)), (.int v1)])) t := by
                  intro t kt
                  show Steps p.tables e below (s₁.setTop (mkF m 115 #[.val (.ref r0), .val (.int p1), .val (.int p2), .val (.int v1), .val (.int (4 : Int32)), .val (.int (128 : Int32)), .val (.int (191 : Int32)), .unset, .unset, .unset] [(.int (240 : Int32)), (.int v1)])) _
                  refine XS.icmpYes X0.here hx rfl (pc0 := 115) (pc' := 126) rfl (hb hby d1_115) rfl (feq hc115_7).2 (by decide) (by decide) ?_
                  show Steps p.tables e below (s₁.setTop (mkF m 126 #[.val (.ref r0), .val (.int p1), .val (.int p2), .val (.int v1), .val (.int (4 : Int32)), .val (.int (128 : Int32)), .val (.int (191 : Int32)), .unset, .unset, .unset] [])) _
                  refine XS.iloadN X0.here hx rfl (hb hby d1_126) rfl ?_
                  show Steps p.tables e below (s₁.setTop (mkF m 127 #[.val (.ref r0), .val (.int p1), .val (.int p2), .val (.int v1), .val (.int (4 : Int32)), .val (.int (128 : Int32)), .val (.int (191 : Int32)), .unset, .unset, .unset] [(.int v1)])) _
                  refine XS.sipush X0.here hx rfl (hb hby d1_127) ?_
                  show Steps p.tables e below (s₁.setTop (mkF m 130 #[.val (.ref r0), .val (.int p1), .val (.int p2), .val (.int v1), .val (.int (4 : Int32)), .val (.int (128 : Int32)), .val (.int (191 : Int32)), .unset, .unset, .unset] [(.int (244 : Int32)), (.int v1)])) _
                  refine st113 _ ?_
                  exact kt
                refine own_arm hgo114 ?_
                exact own_armEnd X113 N113 e113 (by rw [hv10.trans (if_neg hc115_7), hv11.trans (if_neg hc115_7)]))
            have hgo116 : ∀ t, Steps p.tables e below (T115.setTop (mkF m 148 #[.val (.ref r0), .val (.int p1), .val (.int p2), .val (.int v1), .val (.int (4 : Int32)), .val (.int v10), .val (.int v11), .unset, .unset, .unset] [(.int (4 : Int32)), (.int (p2 - p1))])) t → Steps p.tables e below (s₁.setTop (mkF m 105 #[.val (.ref r0), .val (.int p1), .val (.int p2), .val (.int v1), .unset, .val (.int (128 : Int32)), .val (.int (191 : Int32)), .unset, .unset, .unset] [(.int (244 : Int32)), (.int v1)])) t := by
              intro t kt
              show Steps p.tables e below (s₁.setTop (mkF m 105 #[.val (.ref r0), .val (.int p1), .val (.int p2), .val (.int v1), .unset, .val (.int (128 : Int32)), .val (.int (191 : Int32)), .unset, .unset, .unset] [(.int (244 : Int32)), (.int v1)])) _
              refine XS.icmpNo X0.here hx rfl (hb hby d1_105) rfl (flt hc105_6).2.2.1 ?_
              show Steps p.tables e below (s₁.setTop (mkF m 108 #[.val (.ref r0), .val (.int p1), .val (.int p2), .val (.int v1), .unset, .val (.int (128 : Int32)), .val (.int (191 : Int32)), .unset, .unset, .unset] [])) _
              refine XS.iconst X0.here hx rfl (hb hby d1_108) ?_
              show Steps p.tables e below (s₁.setTop (mkF m 109 #[.val (.ref r0), .val (.int p1), .val (.int p2), .val (.int v1), .unset, .val (.int (128 : Int32)), .val (.int (191 : Int32)), .unset, .unset, .unset] [(.int (4 : Int32))])) _
              refine XS.istore X0.here hx rfl (hb hby d1_109) rfl (l' := #[.val (.ref r0), .val (.int p1), .val (.int p2), .val (.int v1), .val (.int (4 : Int32)), .val (.int (128 : Int32)), .val (.int (191 : Int32)), .unset, .unset, .unset]) rfl ?_
              show Steps p.tables e below (s₁.setTop (mkF m 111 #[.val (.ref r0), .val (.int p1), .val (.int p2), .val (.int v1), .val (.int (4 : Int32)), .val (.int (128 : Int32)), .val (.int (191 : Int32)), .unset, .unset, .unset] [])) _
              refine XS.iloadN X0.here hx rfl (hb hby d1_111) rfl ?_
              show Steps p.tables e below (s₁.setTop (mkF m 112 #[.val (.ref r0), .val (.int p1), .val (.int p2), .val (.int v1), .val (.int (4 : Int32)), .val (.int (128 : Int32)), .val (.int (191 : Int32)), .unset, .unset, .unset] [(.int v1)])) _
              refine XS.sipush X0.here hx rfl (hb hby d1_112) ?_
              show Steps p.tables e below (s₁.setTop (mkF m 115 #[.val (.ref r0), .val (.int p1), .val (.int p2), .val (.int v1), .val (.int (4 : Int32)), .val (.int (128 : Int32)), .val (.int (191 : Int32)), .unset, .unset, .unset] [(.int (240 : Int32)), (.int v1)])) _
              refine st115 _ ?_
              show Steps p.tables e below (T115.setTop (mkF m 143 #[.val (.ref r0), .val (.int p1), .val (.int p2), .val (.int v1), .val (.int (4 : Int32)), .val (.int v10), .val (.int v11), .unset, .unset, .unset] [])) _
              refine XS.iloadN X115.here hx rfl (hb hby d1_143) rfl ?_
              show Steps p.tables e below (T115.setTop (mkF m 144 #[.val (.ref r0), .val (.int p1), .val (.int p2), .val (.int v1), .val (.int (4 : Int32)), .val (.int v10), .val (.int v11), .unset, .unset, .unset] [(.int p2)])) _
              refine XS.iloadN X115.here hx rfl (hb hby d1_144) rfl ?_
              show Steps p.tables e below (T115.setTop (mkF m 145 #[.val (.ref r0), .val (.int p1), .val (.int p2), .val (.int v1), .val (.int (4 : Int32)), .val (.int v10), .val (.int v11), .unset, .unset, .unset] [(.int p1), (.int p2)])) _
              refine XS.isub X115.here hx rfl (hb hby d1_145) rfl ?_
              show Steps p.tables e below (T115.setTop (mkF m 146 #[.val (.ref r0), .val (.int p1), .val (.int p2), .val (.int v1), .val (.int (4 : Int32)), .val (.int v10), .val (.int v11), .unset, .unset, .unset] [(.int (p2 - p1))])) _
              refine XS.iload X115.here hx rfl (hb hby d1_146) rfl ?_
              exact kt
            refine own_go hgo116 ?_
            by_cases hc148_12 : (p2 - p1) < (4 : Int32)
            · have hgo117 : ∀ t, Steps p.tables e below (T115.setTop (mkF m 152 #[.val (.ref r0), .val (.int p1), .val (.int p2), .val (.int v1), .val (.int (4 : Int32)), .val (.int v10), .val (.int v11), .unset, .unset, .unset] [(.int (0 : Int32))])) t → Steps p.tables e below (T115.setTop (mkF m 148 #[.val (.ref r0), .val (.int p1), .val (.int p2), .val (.int v1), .val (.int (4 : Int32)), .val (.int v10), .val (.int v11), .unset, .unset, .unset] [(.int (4 : Int32)), (.int (p2 - p1))])) t := by
                intro t kt
                show Steps p.tables e below (T115.setTop (mkF m 148 #[.val (.ref r0), .val (.int p1), .val (.int p2), .val (.int v1), .val (.int (4 : Int32)), .val (.int v10), .val (.int v11), .unset, .unset, .unset] [(.int (4 : Int32)), (.int (p2 - p1))])) _
                refine XS.icmpNo X115.here hx rfl (hb hby d1_148) rfl (tlt hc148_12).2.1 ?_
                show Steps p.tables e below (T115.setTop (mkF m 151 #[.val (.ref r0), .val (.int p1), .val (.int p2), .val (.int v1), .val (.int (4 : Int32)), .val (.int v10), .val (.int v11), .unset, .unset, .unset] [])) _
                refine XS.iconst X115.here hx rfl (hb hby d1_151) ?_
                exact kt
              refine own_go hgo117 ?_
              exact own_retI X115 hx Bd.returns Bd.notSynchronized (hb hby d1_152) (by decide) (by decide) (by rw [e115]; exact ⟨(by subst hv11 hv10 hv9 hv1; rw [own_r1, if_neg hc12_2, if_neg hc31_3, if_pos hc38_4, if_pos hc58_5, if_neg hc105_6, if_pos hc148_12]), N115, rfl⟩)
            · obtain ⟨v13, hv13⟩ : ∃ z : Int32, z = (p1 + (1 : Int32)) := ⟨_, rfl⟩
              have hin157_118 : ¬ v13 < 0 ∧ v13.toNatClampNeg < 5 := by rw [hv13]; rcases hp with q | q <;> rw [q] <;> decide
              obtain ⟨v14, hv14⟩ : ∃ z : Int32, z = ((f v13.toNatClampNeg) &&& (255 : Int32)) := ⟨_, rfl⟩
              have hgo119 : ∀ t, Steps p.tables e below (T115.setTop (mkF m 168 #[.val (.ref r0), .val (.int p1), .val (.int p2), .val (.int v1), .val (.int (4 : Int32)), .val (.int v10), .val (.int v11), .val (.int v14), .unset, .unset] [(.int v10), (.int v14)])) t → Steps p.tables e below (T115.setTop (mkF m 148 #[.val (.ref r0), .val (.int p1), .val (.int p2), .val (.int v1), .val (.int (4 : Int32)), .val (.int v10), .val (.int v11), .unset, .unset, .unset] [(.int (4 : Int32)), (.int (p2 - p1))])) t := by
                intro t kt
                show Steps p.tables e below (T115.setTop (mkF m 148 #[.val (.ref r0), .val (.int p1), .val (.int p2), .val (.int v1), .val (.int (4 : Int32)), .val (.int v10), .val (.int v11), .unset, .unset, .unset] [(.int (4 : Int32)), (.int (p2 - p1))])) _
                refine XS.icmpYes X115.here hx rfl (pc0 := 148) (pc' := 153) rfl (hb hby d1_148) rfl (flt hc148_12).2.1 (by decide) (by decide) ?_
                show Steps p.tables e below (T115.setTop (mkF m 153 #[.val (.ref r0), .val (.int p1), .val (.int p2), .val (.int v1), .val (.int (4 : Int32)), .val (.int v10), .val (.int v11), .unset, .unset, .unset] [])) _
                refine XS.aloadN X115.here hx rfl (hb hby d1_153) rfl rfl ?_
                show Steps p.tables e below (T115.setTop (mkF m 154 #[.val (.ref r0), .val (.int p1), .val (.int p2), .val (.int v1), .val (.int (4 : Int32)), .val (.int v10), .val (.int v11), .unset, .unset, .unset] [(.ref r0)])) _
                refine XS.iloadN X115.here hx rfl (hb hby d1_154) rfl ?_
                show Steps p.tables e below (T115.setTop (mkF m 155 #[.val (.ref r0), .val (.int p1), .val (.int p2), .val (.int v1), .val (.int (4 : Int32)), .val (.int v10), .val (.int v11), .unset, .unset, .unset] [(.int p1), (.ref r0)])) _
                refine XS.iconst X115.here hx rfl (hb hby d1_155) ?_
                show Steps p.tables e below (T115.setTop (mkF m 156 #[.val (.ref r0), .val (.int p1), .val (.int p2), .val (.int v1), .val (.int (4 : Int32)), .val (.int v10), .val (.int v11), .unset, .unset, .unset] [(.int (1 : Int32)), (.int p1), (.ref r0)])) _
                refine XS.iadd X115.here hx rfl (hb hby d1_156) rfl ?_
                show Steps p.tables e below (T115.setTop (mkF m 157 #[.val (.ref r0), .val (.int p1), .val (.int p2), .val (.int v1), .val (.int (4 : Int32)), .val (.int v10), .val (.int v11), .unset, .unset, .unset] [(.int (p1 + (1 : Int32))), (.ref r0)])) _
                rw [← hv13]
                refine own_ldB X115 hx hZ e115 A_r0 (j := v13) hin157_118 (g := (mkF m 157 #[.val (.ref r0), .val (.int p1), .val (.int p2), .val (.int v1), .val (.int (4 : Int32)), .val (.int v10), .val (.int v11), .unset, .unset, .unset] [(.int v13), (.ref r0)])) rfl rfl (hb hby d1_157) _ ?_
                show Steps p.tables e below (T115.setTop (mkF m 158 #[.val (.ref r0), .val (.int p1), .val (.int p2), .val (.int v1), .val (.int (4 : Int32)), .val (.int v10), .val (.int v11), .unset, .unset, .unset] [(.int (f v13.toNatClampNeg))])) _
                refine XS.sipush X115.here hx rfl (hb hby d1_158) ?_
                show Steps p.tables e below (T115.setTop (mkF m 161 #[.val (.ref r0), .val (.int p1), .val (.int p2), .val (.int v1), .val (.int (4 : Int32)), .val (.int v10), .val (.int v11), .unset, .unset, .unset] [(.int (255 : Int32)), (.int (f v13.toNatClampNeg))])) _
                refine XS.iand X115.here hx rfl (hb hby d1_161) rfl ?_
                show Steps p.tables e below (T115.setTop (mkF m 162 #[.val (.ref r0), .val (.int p1), .val (.int p2), .val (.int v1), .val (.int (4 : Int32)), .val (.int v10), .val (.int v11), .unset, .unset, .unset] [(.int ((f v13.toNatClampNeg) &&& (255 : Int32)))])) _
                rw [← hv14]
                show Steps p.tables e below (T115.setTop (mkF m 162 #[.val (.ref r0), .val (.int p1), .val (.int p2), .val (.int v1), .val (.int (4 : Int32)), .val (.int v10), .val (.int v11), .unset, .unset, .unset] [(.int v14)])) _
                refine XS.istore X115.here hx rfl (hb hby d1_162) rfl (l' := #[.val (.ref r0), .val (.int p1), .val (.int p2), .val (.int v1), .val (.int (4 : Int32)), .val (.int v10), .val (.int v11), .val (.int v14), .unset, .unset]) rfl ?_
                show Steps p.tables e below (T115.setTop (mkF m 164 #[.val (.ref r0), .val (.int p1), .val (.int p2), .val (.int v1), .val (.int (4 : Int32)), .val (.int v10), .val (.int v11), .val (.int v14), .unset, .unset] [])) _
                refine XS.iload X115.here hx rfl (hb hby d1_164) rfl ?_
                show Steps p.tables e below (T115.setTop (mkF m 166 #[.val (.ref r0), .val (.int p1), .val (.int p2), .val (.int v1), .val (.int (4 : Int32)), .val (.int v10), .val (.int v11), .val (.int v14), .unset, .unset] [(.int v14)])) _
                refine XS.iload X115.here hx rfl (hb hby d1_166) rfl ?_
                exact kt
              refine own_go hgo119 ?_
              by_cases hc168_15 : v14 < v10
              · have hgo120 : ∀ t, Steps p.tables e below (T115.setTop (mkF m 179 #[.val (.ref r0), .val (.int p1), .val (.int p2), .val (.int v1), .val (.int (4 : Int32)), .val (.int v10), .val (.int v11), .val (.int v14), .unset, .unset] [(.int (0 : Int32))])) t → Steps p.tables e below (T115.setTop (mkF m 168 #[.val (.ref r0), .val (.int p1), .val (.int p2), .val (.int v1), .val (.int (4 : Int32)), .val (.int v10), .val (.int v11), .val (.int v14), .unset, .unset] [(.int v10), (.int v14)])) t := by
                  intro t kt
                  show Steps p.tables e below (T115.setTop (mkF m 168 #[.val (.ref r0), .val (.int p1), .val (.int p2), .val (.int v1), .val (.int (4 : Int32)), .val (.int v10), .val (.int v11), .val (.int v14), .unset, .unset] [(.int v10), (.int v14)])) _
                  refine XS.icmpYes X115.here hx rfl (pc0 := 168) (pc' := 178) rfl (hb hby d1_168) rfl (tlt hc168_15).1 (by decide) (by decide) ?_
                  show Steps p.tables e below (T115.setTop (mkF m 178 #[.val (.ref r0), .val (.int p1), .val (.int p2), .val (.int v1), .val (.int (4 : Int32)), .val (.int v10), .val (.int v11), .val (.int v14), .unset, .unset] [])) _
                  refine XS.iconst X115.here hx rfl (hb hby d1_178) ?_
                  exact kt
                refine own_go hgo120 ?_
                exact own_retI X115 hx Bd.returns Bd.notSynchronized (hb hby d1_179) (by decide) (by decide) (by rw [e115]; exact ⟨(by subst hv14 hv13 hv11 hv10 hv9 hv1; rw [own_r1, if_neg hc12_2, if_neg hc31_3, if_pos hc38_4, if_pos hc58_5, if_neg hc105_6, if_neg hc148_12, if_pos hc168_15]), N115, rfl⟩)
              · have hgo121 : ∀ t, Steps p.tables e below (T115.setTop (mkF m 175 #[.val (.ref r0), .val (.int p1), .val (.int p2), .val (.int v1), .val (.int (4 : Int32)), .val (.int v10), .val (.int v11), .val (.int v14), .unset, .unset] [(.int v11), (.int v14)])) t → Steps p.tables e below (T115.setTop (mkF m 168 #[.val (.ref r0), .val (.int p1), .val (.int p2), .val (.int v1), .val (.int (4 : Int32)), .val (.int v10), .val (.int v11), .val (.int v14), .unset, .unset] [(.int v10), (.int v14)])) t := by
                  intro t kt
                  show Steps p.tables e below (T115.setTop (mkF m 168 #[.val (.ref r0), .val (.int p1), .val (.int p2), .val (.int v1), .val (.int (4 : Int32)), .val (.int v10), .val (.int v11), .val (.int v14), .unset, .unset] [(.int v10), (.int v14)])) _
                  refine XS.icmpNo X115.here hx rfl (hb hby d1_168) rfl (flt hc168_15).1 ?_
                  show Steps p.tables e below (T115.setTop (mkF m 171 #[.val (.ref r0), .val (.int p1), .val (.int p2), .val (.int v1), .val (.int (4 : Int32)), .val (.int v10), .val (.int v11), .val (.int v14), .unset, .unset] [])) _
                  refine XS.iload X115.here hx rfl (hb hby d1_171) rfl ?_
                  show Steps p.tables e below (T115.setTop (mkF m 173 #[.val (.ref r0), .val (.int p1), .val (.int p2), .val (.int v1), .val (.int (4 : Int32)), .val (.int v10), .val (.int v11), .val (.int v14), .unset, .unset] [(.int v14)])) _
                  refine XS.iload X115.here hx rfl (hb hby d1_173) rfl ?_
                  exact kt
                refine own_go hgo121 ?_
                by_cases hc175_16 : v11 < v14
                · have hgo122 : ∀ t, Steps p.tables e below (T115.setTop (mkF m 179 #[.val (.ref r0), .val (.int p1), .val (.int p2), .val (.int v1), .val (.int (4 : Int32)), .val (.int v10), .val (.int v11), .val (.int v14), .unset, .unset] [(.int (0 : Int32))])) t → Steps p.tables e below (T115.setTop (mkF m 175 #[.val (.ref r0), .val (.int p1), .val (.int p2), .val (.int v1), .val (.int (4 : Int32)), .val (.int v10), .val (.int v11), .val (.int v14), .unset, .unset] [(.int v11), (.int v14)])) t := by
                    intro t kt
                    show Steps p.tables e below (T115.setTop (mkF m 175 #[.val (.ref r0), .val (.int p1), .val (.int p2), .val (.int v1), .val (.int (4 : Int32)), .val (.int v10), .val (.int v11), .val (.int v14), .unset, .unset] [(.int v11), (.int v14)])) _
                    refine XS.icmpNo X115.here hx rfl (hb hby d1_175) rfl (tlt hc175_16).2.2.2 ?_
                    show Steps p.tables e below (T115.setTop (mkF m 178 #[.val (.ref r0), .val (.int p1), .val (.int p2), .val (.int v1), .val (.int (4 : Int32)), .val (.int v10), .val (.int v11), .val (.int v14), .unset, .unset] [])) _
                    refine XS.iconst X115.here hx rfl (hb hby d1_178) ?_
                    exact kt
                  refine own_go hgo122 ?_
                  exact own_retI X115 hx Bd.returns Bd.notSynchronized (hb hby d1_179) (by decide) (by decide) (by rw [e115]; exact ⟨(by subst hv14 hv13 hv11 hv10 hv9 hv1; rw [own_r1, if_neg hc12_2, if_neg hc31_3, if_pos hc38_4, if_pos hc58_5, if_neg hc105_6, if_neg hc148_12, if_neg hc168_15, if_pos hc175_16]), N115, rfl⟩)
                · obtain ⟨v17, hv17⟩ : ∃ z : Int32, z = (p1 + (2 : Int32)) := ⟨_, rfl⟩
                  have hin197_123 : ¬ v17 < 0 ∧ v17.toNatClampNeg < 5 := by rw [hv17]; rcases hp with q | q <;> rw [q] <;> decide
                  obtain ⟨v18, hv18⟩ : ∃ z : Int32, z = ((f v17.toNatClampNeg) &&& (255 : Int32)) := ⟨_, rfl⟩
                  have hgo124 : ∀ t, Steps p.tables e below (T115.setTop (mkF m 209 #[.val (.ref r0), .val (.int p1), .val (.int p2), .val (.int v1), .val (.int (4 : Int32)), .val (.int v10), .val (.int v11), .val (.int v14), .val (.int v17), .val (.int v18)] [(.int (128 : Int32)), (.int v18)])) t → Steps p.tables e below (T115.setTop (mkF m 175 #[.val (.ref r0), .val (.int p1), .val (.int p2), .val (.int v1), .val (.int (4 : Int32)), .val (.int v10), .val (.int v11), .val (.int v14), .unset, .unset] [(.int v11), (.int v14)])) t := by
                    intro t kt
                    show Steps p.tables e below (T115.setTop (mkF m 175 #[.val (.ref r0), .val (.int p1), .val (.int p2), .val (.int v1), .val (.int (4 : Int32)), .val (.int v10), .val (.int v11), .val (.int v14), .unset, .unset] [(.int v11), (.int v14)])) _
                    refine XS.icmpYes X115.here hx rfl (pc0 := 175) (pc' := 180) rfl (hb hby d1_175) rfl (flt hc175_16).2.2.2 (by decide) (by decide) ?_
                    show Steps p.tables e below (T115.setTop (mkF m 180 #[.val (.ref r0), .val (.int p1), .val (.int p2), .val (.int v1), .val (.int (4 : Int32)), .val (.int v10), .val (.int v11), .val (.int v14), .unset, .unset] [])) _
                    refine XS.iloadN X115.here hx rfl (hb hby d1_180) rfl ?_
                    show Steps p.tables e below (T115.setTop (mkF m 181 #[.val (.ref r0), .val (.int p1), .val (.int p2), .val (.int v1), .val (.int (4 : Int32)), .val (.int v10), .val (.int v11), .val (.int v14), .unset, .unset] [(.int p1)])) _
                    refine XS.iconst X115.here hx rfl (hb hby d1_181) ?_
                    show Steps p.tables e below (T115.setTop (mkF m 182 #[.val (.ref r0), .val (.int p1), .val (.int p2), .val (.int v1), .val (.int (4 : Int32)), .val (.int v10), .val (.int v11), .val (.int v14), .unset, .unset] [(.int (2 : Int32)), (.int p1)])) _
                    refine XS.iadd X115.here hx rfl (hb hby d1_182) rfl ?_
                    show Steps p.tables e below (T115.setTop (mkF m 183 #[.val (.ref r0), .val (.int p1), .val (.int p2), .val (.int v1), .val (.int (4 : Int32)), .val (.int v10), .val (.int v11), .val (.int v14), .unset, .unset] [(.int (p1 + (2 : Int32)))])) _
                    rw [← hv17]
                    show Steps p.tables e below (T115.setTop (mkF m 183 #[.val (.ref r0), .val (.int p1), .val (.int p2), .val (.int v1), .val (.int (4 : Int32)), .val (.int v10), .val (.int v11), .val (.int v14), .unset, .unset] [(.int v17)])) _
                    refine XS.istore X115.here hx rfl (hb hby d1_183) rfl (l' := #[.val (.ref r0), .val (.int p1), .val (.int p2), .val (.int v1), .val (.int (4 : Int32)), .val (.int v10), .val (.int v11), .val (.int v14), .val (.int v17), .unset]) rfl ?_
                    show Steps p.tables e below (T115.setTop (mkF m 185 #[.val (.ref r0), .val (.int p1), .val (.int p2), .val (.int v1), .val (.int (4 : Int32)), .val (.int v10), .val (.int v11), .val (.int v14), .val (.int v17), .unset] [])) _
                    refine XS.iload X115.here hx rfl (hb hby d1_185) rfl ?_
                    show Steps p.tables e below (T115.setTop (mkF m 187 #[.val (.ref r0), .val (.int p1), .val (.int p2), .val (.int v1), .val (.int (4 : Int32)), .val (.int v10), .val (.int v11), .val (.int v14), .val (.int v17), .unset] [(.int v17)])) _
                    refine XS.iloadN X115.here hx rfl (hb hby d1_187) rfl ?_
                    show Steps p.tables e below (T115.setTop (mkF m 188 #[.val (.ref r0), .val (.int p1), .val (.int p2), .val (.int v1), .val (.int (4 : Int32)), .val (.int v10), .val (.int v11), .val (.int v14), .val (.int v17), .unset] [(.int p1), (.int v17)])) _
                    refine XS.iload X115.here hx rfl (hb hby d1_188) rfl ?_
                    show Steps p.tables e below (T115.setTop (mkF m 190 #[.val (.ref r0), .val (.int p1), .val (.int p2), .val (.int v1), .val (.int (4 : Int32)), .val (.int v10), .val (.int v11), .val (.int v14), .val (.int v17), .unset] [(.int (4 : Int32)), (.int p1), (.int v17)])) _
                    refine XS.iadd X115.here hx rfl (hb hby d1_190) rfl ?_
                    show Steps p.tables e below (T115.setTop (mkF m 191 #[.val (.ref r0), .val (.int p1), .val (.int p2), .val (.int v1), .val (.int (4 : Int32)), .val (.int v10), .val (.int v11), .val (.int v14), .val (.int v17), .unset] [(.int (p1 + (4 : Int32))), (.int v17)])) _
                    refine XS.icmpNo X115.here hx rfl (hb hby d1_191) rfl (tlt (by rw [hv17]; rcases hp with q | q <;> rw [q] <;> decide : v17 < (p1 + (4 : Int32)))).2.1 ?_
                    show Steps p.tables e below (T115.setTop (mkF m 194 #[.val (.ref r0), .val (.int p1), .val (.int p2), .val (.int v1), .val (.int (4 : Int32)), .val (.int v10), .val (.int v11), .val (.int v14), .val (.int v17), .unset] [])) _
                    refine XS.aloadN X115.here hx rfl (hb hby d1_194) rfl rfl ?_
                    show Steps p.tables e below (T115.setTop (mkF m 195 #[.val (.ref r0), .val (.int p1), .val (.int p2), .val (.int v1), .val (.int (4 : Int32)), .val (.int v10), .val (.int v11), .val (.int v14), .val (.int v17), .unset] [(.ref r0)])) _
                    refine XS.iload X115.here hx rfl (hb hby d1_195) rfl ?_
                    show Steps p.tables e below (T115.setTop (mkF m 197 #[.val (.ref r0), .val (.int p1), .val (.int p2), .val (.int v1), .val (.int (4 : Int32)), .val (.int v10), .val (.int v11), .val (.int v14), .val (.int v17), .unset] [(.int v17), (.ref r0)])) _
                    refine own_ldB X115 hx hZ e115 A_r0 (j := v17) hin197_123 (g := (mkF m 197 #[.val (.ref r0), .val (.int p1), .val (.int p2), .val (.int v1), .val (.int (4 : Int32)), .val (.int v10), .val (.int v11), .val (.int v14), .val (.int v17), .unset] [(.int v17), (.ref r0)])) rfl rfl (hb hby d1_197) _ ?_
                    show Steps p.tables e below (T115.setTop (mkF m 198 #[.val (.ref r0), .val (.int p1), .val (.int p2), .val (.int v1), .val (.int (4 : Int32)), .val (.int v10), .val (.int v11), .val (.int v14), .val (.int v17), .unset] [(.int (f v17.toNatClampNeg))])) _
                    refine XS.sipush X115.here hx rfl (hb hby d1_198) ?_
                    show Steps p.tables e below (T115.setTop (mkF m 201 #[.val (.ref r0), .val (.int p1), .val (.int p2), .val (.int v1), .val (.int (4 : Int32)), .val (.int v10), .val (.int v11), .val (.int v14), .val (.int v17), .unset] [(.int (255 : Int32)), (.int (f v17.toNatClampNeg))])) _
                    refine XS.iand X115.here hx rfl (hb hby d1_201) rfl ?_
                    show Steps p.tables e below (T115.setTop (mkF m 202 #[.val (.ref r0), .val (.int p1), .val (.int p2), .val (.int v1), .val (.int (4 : Int32)), .val (.int v10), .val (.int v11), .val (.int v14), .val (.int v17), .unset] [(.int ((f v17.toNatClampNeg) &&& (255 : Int32)))])) _
                    rw [← hv18]
                    show Steps p.tables e below (T115.setTop (mkF m 202 #[.val (.ref r0), .val (.int p1), .val (.int p2), .val (.int v1), .val (.int (4 : Int32)), .val (.int v10), .val (.int v11), .val (.int v14), .val (.int v17), .unset] [(.int v18)])) _
                    refine XS.istore X115.here hx rfl (hb hby d1_202) rfl (l' := #[.val (.ref r0), .val (.int p1), .val (.int p2), .val (.int v1), .val (.int (4 : Int32)), .val (.int v10), .val (.int v11), .val (.int v14), .val (.int v17), .val (.int v18)]) rfl ?_
                    show Steps p.tables e below (T115.setTop (mkF m 204 #[.val (.ref r0), .val (.int p1), .val (.int p2), .val (.int v1), .val (.int (4 : Int32)), .val (.int v10), .val (.int v11), .val (.int v14), .val (.int v17), .val (.int v18)] [])) _
                    refine XS.iload X115.here hx rfl (hb hby d1_204) rfl ?_
                    show Steps p.tables e below (T115.setTop (mkF m 206 #[.val (.ref r0), .val (.int p1), .val (.int p2), .val (.int v1), .val (.int (4 : Int32)), .val (.int v10), .val (.int v11), .val (.int v14), .val (.int v17), .val (.int v18)] [(.int v18)])) _
                    refine XS.sipush X115.here hx rfl (hb hby d1_206) ?_
                    exact kt
                  refine own_go hgo124 ?_
                  by_cases hc209_19 : v18 < (128 : Int32)
                  · have hgo125 : ∀ t, Steps p.tables e below (T115.setTop (mkF m 221 #[.val (.ref r0), .val (.int p1), .val (.int p2), .val (.int v1), .val (.int (4 : Int32)), .val (.int v10), .val (.int v11), .val (.int v14), .val (.int v17), .val (.int v18)] [(.int (0 : Int32))])) t → Steps p.tables e below (T115.setTop (mkF m 209 #[.val (.ref r0), .val (.int p1), .val (.int p2), .val (.int v1), .val (.int (4 : Int32)), .val (.int v10), .val (.int v11), .val (.int v14), .val (.int v17), .val (.int v18)] [(.int (128 : Int32)), (.int v18)])) t := by
                      intro t kt
                      show Steps p.tables e below (T115.setTop (mkF m 209 #[.val (.ref r0), .val (.int p1), .val (.int p2), .val (.int v1), .val (.int (4 : Int32)), .val (.int v10), .val (.int v11), .val (.int v14), .val (.int v17), .val (.int v18)] [(.int (128 : Int32)), (.int v18)])) _
                      refine XS.icmpYes X115.here hx rfl (pc0 := 209) (pc' := 220) rfl (hb hby d1_209) rfl (tlt hc209_19).1 (by decide) (by decide) ?_
                      show Steps p.tables e below (T115.setTop (mkF m 220 #[.val (.ref r0), .val (.int p1), .val (.int p2), .val (.int v1), .val (.int (4 : Int32)), .val (.int v10), .val (.int v11), .val (.int v14), .val (.int v17), .val (.int v18)] [])) _
                      refine XS.iconst X115.here hx rfl (hb hby d1_220) ?_
                      exact kt
                    refine own_go hgo125 ?_
                    exact own_retI X115 hx Bd.returns Bd.notSynchronized (hb hby d1_221) (by decide) (by decide) (by rw [e115]; exact ⟨(by subst hv18 hv17 hv14 hv13 hv11 hv10 hv9 hv1; rw [own_r1, if_neg hc12_2, if_neg hc31_3, if_pos hc38_4, if_pos hc58_5, if_neg hc105_6, if_neg hc148_12, if_neg hc168_15, if_neg hc175_16, if_pos hc209_19]), N115, rfl⟩)
                  · have hgo126 : ∀ t, Steps p.tables e below (T115.setTop (mkF m 217 #[.val (.ref r0), .val (.int p1), .val (.int p2), .val (.int v1), .val (.int (4 : Int32)), .val (.int v10), .val (.int v11), .val (.int v14), .val (.int v17), .val (.int v18)] [(.int (191 : Int32)), (.int v18)])) t → Steps p.tables e below (T115.setTop (mkF m 209 #[.val (.ref r0), .val (.int p1), .val (.int p2), .val (.int v1), .val (.int (4 : Int32)), .val (.int v10), .val (.int v11), .val (.int v14), .val (.int v17), .val (.int v18)] [(.int (128 : Int32)), (.int v18)])) t := by
                      intro t kt
                      show Steps p.tables e below (T115.setTop (mkF m 209 #[.val (.ref r0), .val (.int p1), .val (.int p2), .val (.int v1), .val (.int (4 : Int32)), .val (.int v10), .val (.int v11), .val (.int v14), .val (.int v17), .val (.int v18)] [(.int (128 : Int32)), (.int v18)])) _
                      refine XS.icmpNo X115.here hx rfl (hb hby d1_209) rfl (flt hc209_19).1 ?_
                      show Steps p.tables e below (T115.setTop (mkF m 212 #[.val (.ref r0), .val (.int p1), .val (.int p2), .val (.int v1), .val (.int (4 : Int32)), .val (.int v10), .val (.int v11), .val (.int v14), .val (.int v17), .val (.int v18)] [])) _
                      refine XS.iload X115.here hx rfl (hb hby d1_212) rfl ?_
                      show Steps p.tables e below (T115.setTop (mkF m 214 #[.val (.ref r0), .val (.int p1), .val (.int p2), .val (.int v1), .val (.int (4 : Int32)), .val (.int v10), .val (.int v11), .val (.int v14), .val (.int v17), .val (.int v18)] [(.int v18)])) _
                      refine XS.sipush X115.here hx rfl (hb hby d1_214) ?_
                      exact kt
                    refine own_go hgo126 ?_
                    by_cases hc217_20 : (191 : Int32) < v18
                    · have hgo127 : ∀ t, Steps p.tables e below (T115.setTop (mkF m 221 #[.val (.ref r0), .val (.int p1), .val (.int p2), .val (.int v1), .val (.int (4 : Int32)), .val (.int v10), .val (.int v11), .val (.int v14), .val (.int v17), .val (.int v18)] [(.int (0 : Int32))])) t → Steps p.tables e below (T115.setTop (mkF m 217 #[.val (.ref r0), .val (.int p1), .val (.int p2), .val (.int v1), .val (.int (4 : Int32)), .val (.int v10), .val (.int v11), .val (.int v14), .val (.int v17), .val (.int v18)] [(.int (191 : Int32)), (.int v18)])) t := by
                        intro t kt
                        show Steps p.tables e below (T115.setTop (mkF m 217 #[.val (.ref r0), .val (.int p1), .val (.int p2), .val (.int v1), .val (.int (4 : Int32)), .val (.int v10), .val (.int v11), .val (.int v14), .val (.int v17), .val (.int v18)] [(.int (191 : Int32)), (.int v18)])) _
                        refine XS.icmpNo X115.here hx rfl (hb hby d1_217) rfl (tlt hc217_20).2.2.2 ?_
                        show Steps p.tables e below (T115.setTop (mkF m 220 #[.val (.ref r0), .val (.int p1), .val (.int p2), .val (.int v1), .val (.int (4 : Int32)), .val (.int v10), .val (.int v11), .val (.int v14), .val (.int v17), .val (.int v18)] [])) _
                        refine XS.iconst X115.here hx rfl (hb hby d1_220) ?_
                        exact kt
                      refine own_go hgo127 ?_
                      exact own_retI X115 hx Bd.returns Bd.notSynchronized (hb hby d1_221) (by decide) (by decide) (by rw [e115]; exact ⟨(by subst hv18 hv17 hv14 hv13 hv11 hv10 hv9 hv1; rw [own_r1, if_neg hc12_2, if_neg hc31_3, if_pos hc38_4, if_pos hc58_5, if_neg hc105_6, if_neg hc148_12, if_neg hc168_15, if_neg hc175_16, if_neg hc209_19, if_pos hc217_20]), N115, rfl⟩)
                    · obtain ⟨v21, hv21⟩ : ∃ z : Int32, z = (v17 + (1 : Int32)) := ⟨_, rfl⟩
                      have hin197_128 : ¬ v21 < 0 ∧ v21.toNatClampNeg < 5 := by rw [hv21, hv17]; rcases hp with q | q <;> rw [q] <;> decide
                      obtain ⟨v22, hv22⟩ : ∃ z : Int32, z = ((f v21.toNatClampNeg) &&& (255 : Int32)) := ⟨_, rfl⟩
                      have hgo129 : ∀ t, Steps p.tables e below (T115.setTop (mkF m 209 #[.val (.ref r0), .val (.int p1), .val (.int p2), .val (.int v1), .val (.int (4 : Int32)), .val (.int v10), .val (.int v11), .val (.int v14), .val (.int v21), .val (.int v22)] [(.int (128 : Int32)), (.int v22)])) t → Steps p.tables e below (T115.setTop (mkF m 217 #[.val (.ref r0), .val (.int p1), .val (.int p2), .val (.int v1), .val (.int (4 : Int32)), .val (.int v10), .val (.int v11), .val (.int v14), .val (.int v17), .val (.int v18)] [(.int (191 : Int32)), (.int v18)])) t := by
                        intro t kt
                        show Steps p.tables e below (T115.setTop (mkF m 217 #[.val (.ref r0), .val (.int p1), .val (.int p2), .val (.int v1), .val (.int (4 : Int32)), .val (.int v10), .val (.int v11), .val (.int v14), .val (.int v17), .val (.int v18)] [(.int (191 : Int32)), (.int v18)])) _
                        refine XS.icmpYes X115.here hx rfl (pc0 := 217) (pc' := 222) rfl (hb hby d1_217) rfl (flt hc217_20).2.2.2 (by decide) (by decide) ?_
                        show Steps p.tables e below (T115.setTop (mkF m 222 #[.val (.ref r0), .val (.int p1), .val (.int p2), .val (.int v1), .val (.int (4 : Int32)), .val (.int v10), .val (.int v11), .val (.int v14), .val (.int v17), .val (.int v18)] [])) _
                        refine XS.iinc X115.here hx rfl (hb hby d1_222) rfl (l' := #[.val (.ref r0), .val (.int p1), .val (.int p2), .val (.int v1), .val (.int (4 : Int32)), .val (.int v10), .val (.int v11), .val (.int v14), .val (.int (v17 + (1 : Int32))), .val (.int v18)]) rfl ?_
                        rw [← hv21]
                        show Steps p.tables e below (T115.setTop (mkF m 225 #[.val (.ref r0), .val (.int p1), .val (.int p2), .val (.int v1), .val (.int (4 : Int32)), .val (.int v10), .val (.int v11), .val (.int v14), .val (.int v21), .val (.int v18)] [])) _
                        refine XS.goto X115.here hx rfl (pc0 := 225) (pc' := 185) rfl (hb hby d1_225) (by decide) (by decide) ?_
                        show Steps p.tables e below (T115.setTop (mkF m 185 #[.val (.ref r0), .val (.int p1), .val (.int p2), .val (.int v1), .val (.int (4 : Int32)), .val (.int v10), .val (.int v11), .val (.int v14), .val (.int v21), .val (.int v18)] [])) _
                        refine XS.iload X115.here hx rfl (hb hby d1_185) rfl ?_
                        show Steps p.tables e below (T115.setTop (mkF m 187 #[.val (.ref r0), .val (.int p1), .val (.int p2), .val (.int v1), .val (.int (4 : Int32)), .val (.int v10), .val (.int v11), .val (.int v14), .val (.int v21), .val (.int v18)] [(.int v21)])) _
                        refine XS.iloadN X115.here hx rfl (hb hby d1_187) rfl ?_
                        show Steps p.tables e below (T115.setTop (mkF m 188 #[.val (.ref r0), .val (.int p1), .val (.int p2), .val (.int v1), .val (.int (4 : Int32)), .val (.int v10), .val (.int v11), .val (.int v14), .val (.int v21), .val (.int v18)] [(.int p1), (.int v21)])) _
                        refine XS.iload X115.here hx rfl (hb hby d1_188) rfl ?_
                        show Steps p.tables e below (T115.setTop (mkF m 190 #[.val (.ref r0), .val (.int p1), .val (.int p2), .val (.int v1), .val (.int (4 : Int32)), .val (.int v10), .val (.int v11), .val (.int v14), .val (.int v21), .val (.int v18)] [(.int (4 : Int32)), (.int p1), (.int v21)])) _
                        refine XS.iadd X115.here hx rfl (hb hby d1_190) rfl ?_
                        show Steps p.tables e below (T115.setTop (mkF m 191 #[.val (.ref r0), .val (.int p1), .val (.int p2), .val (.int v1), .val (.int (4 : Int32)), .val (.int v10), .val (.int v11), .val (.int v14), .val (.int v21), .val (.int v18)] [(.int (p1 + (4 : Int32))), (.int v21)])) _
                        refine XS.icmpNo X115.here hx rfl (hb hby d1_191) rfl (tlt (by rw [hv21, hv17]; rcases hp with q | q <;> rw [q] <;> decide : v21 < (p1 + (4 : Int32)))).2.1 ?_
                        show Steps p.tables e below (T115.setTop (mkF m 194 #[.val (.ref r0), .val (.int p1), .val (.int p2), .val (.int v1), .val (.int (4 : Int32)), .val (.int v10), .val (.int v11), .val (.int v14), .val (.int v21), .val (.int v18)] [])) _
                        refine XS.aloadN X115.here hx rfl (hb hby d1_194) rfl rfl ?_
                        show Steps p.tables e below (T115.setTop (mkF m 195 #[.val (.ref r0), .val (.int p1), .val (.int p2), .val (.int v1), .val (.int (4 : Int32)), .val (.int v10), .val (.int v11), .val (.int v14), .val (.int v21), .val (.int v18)] [(.ref r0)])) _
                        refine XS.iload X115.here hx rfl (hb hby d1_195) rfl ?_
                        show Steps p.tables e below (T115.setTop (mkF m 197 #[.val (.ref r0), .val (.int p1), .val (.int p2), .val (.int v1), .val (.int (4 : Int32)), .val (.int v10), .val (.int v11), .val (.int v14), .val (.int v21), .val (.int v18)] [(.int v21), (.ref r0)])) _
                        refine own_ldB X115 hx hZ e115 A_r0 (j := v21) hin197_128 (g := (mkF m 197 #[.val (.ref r0), .val (.int p1), .val (.int p2), .val (.int v1), .val (.int (4 : Int32)), .val (.int v10), .val (.int v11), .val (.int v14), .val (.int v21), .val (.int v18)] [(.int v21), (.ref r0)])) rfl rfl (hb hby d1_197) _ ?_
                        show Steps p.tables e below (T115.setTop (mkF m 198 #[.val (.ref r0), .val (.int p1), .val (.int p2), .val (.int v1), .val (.int (4 : Int32)), .val (.int v10), .val (.int v11), .val (.int v14), .val (.int v21), .val (.int v18)] [(.int (f v21.toNatClampNeg))])) _
                        refine XS.sipush X115.here hx rfl (hb hby d1_198) ?_
                        show Steps p.tables e below (T115.setTop (mkF m 201 #[.val (.ref r0), .val (.int p1), .val (.int p2), .val (.int v1), .val (.int (4 : Int32)), .val (.int v10), .val (.int v11), .val (.int v14), .val (.int v21), .val (.int v18)] [(.int (255 : Int32)), (.int (f v21.toNatClampNeg))])) _
                        refine XS.iand X115.here hx rfl (hb hby d1_201) rfl ?_
                        show Steps p.tables e below (T115.setTop (mkF m 202 #[.val (.ref r0), .val (.int p1), .val (.int p2), .val (.int v1), .val (.int (4 : Int32)), .val (.int v10), .val (.int v11), .val (.int v14), .val (.int v21), .val (.int v18)] [(.int ((f v21.toNatClampNeg) &&& (255 : Int32)))])) _
                        rw [← hv22]
                        show Steps p.tables e below (T115.setTop (mkF m 202 #[.val (.ref r0), .val (.int p1), .val (.int p2), .val (.int v1), .val (.int (4 : Int32)), .val (.int v10), .val (.int v11), .val (.int v14), .val (.int v21), .val (.int v18)] [(.int v22)])) _
                        refine XS.istore X115.here hx rfl (hb hby d1_202) rfl (l' := #[.val (.ref r0), .val (.int p1), .val (.int p2), .val (.int v1), .val (.int (4 : Int32)), .val (.int v10), .val (.int v11), .val (.int v14), .val (.int v21), .val (.int v22)]) rfl ?_
                        show Steps p.tables e below (T115.setTop (mkF m 204 #[.val (.ref r0), .val (.int p1), .val (.int p2), .val (.int v1), .val (.int (4 : Int32)), .val (.int v10), .val (.int v11), .val (.int v14), .val (.int v21), .val (.int v22)] [])) _
                        refine XS.iload X115.here hx rfl (hb hby d1_204) rfl ?_
                        show Steps p.tables e below (T115.setTop (mkF m 206 #[.val (.ref r0), .val (.int p1), .val (.int p2), .val (.int v1), .val (.int (4 : Int32)), .val (.int v10), .val (.int v11), .val (.int v14), .val (.int v21), .val (.int v22)] [(.int v22)])) _
                        refine XS.sipush X115.here hx rfl (hb hby d1_206) ?_
                        exact kt
                      refine own_go hgo129 ?_
                      by_cases hc209_23 : v22 < (128 : Int32)
                      · have hgo130 : ∀ t, Steps p.tables e below (T115.setTop (mkF m 221 #[.val (.ref r0), .val (.int p1), .val (.int p2), .val (.int v1), .val (.int (4 : Int32)), .val (.int v10), .val (.int v11), .val (.int v14), .val (.int v21), .val (.int v22)] [(.int (0 : Int32))])) t → Steps p.tables e below (T115.setTop (mkF m 209 #[.val (.ref r0), .val (.int p1), .val (.int p2), .val (.int v1), .val (.int (4 : Int32)), .val (.int v10), .val (.int v11), .val (.int v14), .val (.int v21), .val (.int v22)] [(.int (128 : Int32)), (.int v22)])) t := by
                          intro t kt
                          show Steps p.tables e below (T115.setTop (mkF m 209 #[.val (.ref r0), .val (.int p1), .val (.int p2), .val (.int v1), .val (.int (4 : Int32)), .val (.int v10), .val (.int v11), .val (.int v14), .val (.int v21), .val (.int v22)] [(.int (128 : Int32)), (.int v22)])) _
                          refine XS.icmpYes X115.here hx rfl (pc0 := 209) (pc' := 220) rfl (hb hby d1_209) rfl (tlt hc209_23).1 (by decide) (by decide) ?_
                          show Steps p.tables e below (T115.setTop (mkF m 220 #[.val (.ref r0), .val (.int p1), .val (.int p2), .val (.int v1), .val (.int (4 : Int32)), .val (.int v10), .val (.int v11), .val (.int v14), .val (.int v21), .val (.int v22)] [])) _
                          refine XS.iconst X115.here hx rfl (hb hby d1_220) ?_
                          exact kt
                        refine own_go hgo130 ?_
                        exact own_retI X115 hx Bd.returns Bd.notSynchronized (hb hby d1_221) (by decide) (by decide) (by rw [e115]; exact ⟨(by subst hv22 hv21 hv18 hv17 hv14 hv13 hv11 hv10 hv9 hv1; rw [own_r1, if_neg hc12_2, if_neg hc31_3, if_pos hc38_4, if_pos hc58_5, if_neg hc105_6, if_neg hc148_12, if_neg hc168_15, if_neg hc175_16, if_neg hc209_19, if_neg hc217_20, if_pos hc209_23]), N115, rfl⟩)
                      · have hgo131 : ∀ t, Steps p.tables e below (T115.setTop (mkF m 217 #[.val (.ref r0), .val (.int p1), .val (.int p2), .val (.int v1), .val (.int (4 : Int32)), .val (.int v10), .val (.int v11), .val (.int v14), .val (.int v21), .val (.int v22)] [(.int (191 : Int32)), (.int v22)])) t → Steps p.tables e below (T115.setTop (mkF m 209 #[.val (.ref r0), .val (.int p1), .val (.int p2), .val (.int v1), .val (.int (4 : Int32)), .val (.int v10), .val (.int v11), .val (.int v14), .val (.int v21), .val (.int v22)] [(.int (128 : Int32)), (.int v22)])) t := by
                          intro t kt
                          show Steps p.tables e below (T115.setTop (mkF m 209 #[.val (.ref r0), .val (.int p1), .val (.int p2), .val (.int v1), .val (.int (4 : Int32)), .val (.int v10), .val (.int v11), .val (.int v14), .val (.int v21), .val (.int v22)] [(.int (128 : Int32)), (.int v22)])) _
                          refine XS.icmpNo X115.here hx rfl (hb hby d1_209) rfl (flt hc209_23).1 ?_
                          show Steps p.tables e below (T115.setTop (mkF m 212 #[.val (.ref r0), .val (.int p1), .val (.int p2), .val (.int v1), .val (.int (4 : Int32)), .val (.int v10), .val (.int v11), .val (.int v14), .val (.int v21), .val (.int v22)] [])) _
                          refine XS.iload X115.here hx rfl (hb hby d1_212) rfl ?_
                          show Steps p.tables e below (T115.setTop (mkF m 214 #[.val (.ref r0), .val (.int p1), .val (.int p2), .val (.int v1), .val (.int (4 : Int32)), .val (.int v10), .val (.int v11), .val (.int v14), .val (.int v21), .val (.int v22)] [(.int v22)])) _
                          refine XS.sipush X115.here hx rfl (hb hby d1_214) ?_
                          exact kt
                        refine own_go hgo131 ?_
                        by_cases hc217_24 : (191 : Int32) < v22
                        · have hgo132 : ∀ t, Steps p.tables e below (T115.setTop (mkF m 221 #[.val (.ref r0), .val (.int p1), .val (.int p2), .val (.int v1), .val (.int (4 : Int32)), .val (.int v10), .val (.int v11), .val (.int v14), .val (.int v21), .val (.int v22)] [(.int (0 : Int32))])) t → Steps p.tables e below (T115.setTop (mkF m 217 #[.val (.ref r0), .val (.int p1), .val (.int p2), .val (.int v1), .val (.int (4 : Int32)), .val (.int v10), .val (.int v11), .val (.int v14), .val (.int v21), .val (.int v22)] [(.int (191 : Int32)), (.int v22)])) t := by
                            intro t kt
                            show Steps p.tables e below (T115.setTop (mkF m 217 #[.val (.ref r0), .val (.int p1), .val (.int p2), .val (.int v1), .val (.int (4 : Int32)), .val (.int v10), .val (.int v11), .val (.int v14), .val (.int v21), .val (.int v22)] [(.int (191 : Int32)), (.int v22)])) _
                            refine XS.icmpNo X115.here hx rfl (hb hby d1_217) rfl (tlt hc217_24).2.2.2 ?_
                            show Steps p.tables e below (T115.setTop (mkF m 220 #[.val (.ref r0), .val (.int p1), .val (.int p2), .val (.int v1), .val (.int (4 : Int32)), .val (.int v10), .val (.int v11), .val (.int v14), .val (.int v21), .val (.int v22)] [])) _
                            refine XS.iconst X115.here hx rfl (hb hby d1_220) ?_
                            exact kt
                          refine own_go hgo132 ?_
                          exact own_retI X115 hx Bd.returns Bd.notSynchronized (hb hby d1_221) (by decide) (by decide) (by rw [e115]; exact ⟨(by subst hv22 hv21 hv18 hv17 hv14 hv13 hv11 hv10 hv9 hv1; rw [own_r1, if_neg hc12_2, if_neg hc31_3, if_pos hc38_4, if_pos hc58_5, if_neg hc105_6, if_neg hc148_12, if_neg hc168_15, if_neg hc175_16, if_neg hc209_19, if_neg hc217_20, if_neg hc209_23, if_pos hc217_24]), N115, rfl⟩)
                        · obtain ⟨v25, hv25⟩ : ∃ z : Int32, z = (v21 + (1 : Int32)) := ⟨_, rfl⟩
                          have hgo133 : ∀ t, Steps p.tables e below (T115.setTop (mkF m 230 #[.val (.ref r0), .val (.int p1), .val (.int p2), .val (.int v1), .val (.int (4 : Int32)), .val (.int v10), .val (.int v11), .val (.int v14), .val (.int v25), .val (.int v22)] [(.int (4 : Int32))])) t → Steps p.tables e below (T115.setTop (mkF m 217 #[.val (.ref r0), .val (.int p1), .val (.int p2), .val (.int v1), .val (.int (4 : Int32)), .val (.int v10), .val (.int v11), .val (.int v14), .val (.int v21), .val (.int v22)] [(.int (191 : Int32)), (.int v22)])) t := by
                            intro t kt
                            show Steps p.tables e below (T115.setTop (mkF m 217 #[.val (.ref r0), .val (.int p1), .val (.int p2), .val (.int v1), .val (.int (4 : Int32)), .val (.int v10), .val (.int v11), .val (.int v14), .val (.int v21), .val (.int v22)] [(.int (191 : Int32)), (.int v22)])) _
                            refine XS.icmpYes X115.here hx rfl (pc0 := 217) (pc' := 222) rfl (hb hby d1_217) rfl (flt hc217_24).2.2.2 (by decide) (by decide) ?_
                            show Steps p.tables e below (T115.setTop (mkF m 222 #[.val (.ref r0), .val (.int p1), .val (.int p2), .val (.int v1), .val (.int (4 : Int32)), .val (.int v10), .val (.int v11), .val (.int v14), .val (.int v21), .val (.int v22)] [])) _
                            refine XS.iinc X115.here hx rfl (hb hby d1_222) rfl (l' := #[.val (.ref r0), .val (.int p1), .val (.int p2), .val (.int v1), .val (.int (4 : Int32)), .val (.int v10), .val (.int v11), .val (.int v14), .val (.int (v21 + (1 : Int32))), .val (.int v22)]) rfl ?_
                            rw [← hv25]
                            show Steps p.tables e below (T115.setTop (mkF m 225 #[.val (.ref r0), .val (.int p1), .val (.int p2), .val (.int v1), .val (.int (4 : Int32)), .val (.int v10), .val (.int v11), .val (.int v14), .val (.int v25), .val (.int v22)] [])) _
                            refine XS.goto X115.here hx rfl (pc0 := 225) (pc' := 185) rfl (hb hby d1_225) (by decide) (by decide) ?_
                            show Steps p.tables e below (T115.setTop (mkF m 185 #[.val (.ref r0), .val (.int p1), .val (.int p2), .val (.int v1), .val (.int (4 : Int32)), .val (.int v10), .val (.int v11), .val (.int v14), .val (.int v25), .val (.int v22)] [])) _
                            refine XS.iload X115.here hx rfl (hb hby d1_185) rfl ?_
                            show Steps p.tables e below (T115.setTop (mkF m 187 #[.val (.ref r0), .val (.int p1), .val (.int p2), .val (.int v1), .val (.int (4 : Int32)), .val (.int v10), .val (.int v11), .val (.int v14), .val (.int v25), .val (.int v22)] [(.int v25)])) _
                            refine XS.iloadN X115.here hx rfl (hb hby d1_187) rfl ?_
                            show Steps p.tables e below (T115.setTop (mkF m 188 #[.val (.ref r0), .val (.int p1), .val (.int p2), .val (.int v1), .val (.int (4 : Int32)), .val (.int v10), .val (.int v11), .val (.int v14), .val (.int v25), .val (.int v22)] [(.int p1), (.int v25)])) _
                            refine XS.iload X115.here hx rfl (hb hby d1_188) rfl ?_
                            show Steps p.tables e below (T115.setTop (mkF m 190 #[.val (.ref r0), .val (.int p1), .val (.int p2), .val (.int v1), .val (.int (4 : Int32)), .val (.int v10), .val (.int v11), .val (.int v14), .val (.int v25), .val (.int v22)] [(.int (4 : Int32)), (.int p1), (.int v25)])) _
                            refine XS.iadd X115.here hx rfl (hb hby d1_190) rfl ?_
                            show Steps p.tables e below (T115.setTop (mkF m 191 #[.val (.ref r0), .val (.int p1), .val (.int p2), .val (.int v1), .val (.int (4 : Int32)), .val (.int v10), .val (.int v11), .val (.int v14), .val (.int v25), .val (.int v22)] [(.int (p1 + (4 : Int32))), (.int v25)])) _
                            refine XS.icmpYes X115.here hx rfl (pc0 := 191) (pc' := 228) rfl (hb hby d1_191) rfl (flt (by rw [hv25, hv21, hv17]; rcases hp with q | q <;> rw [q] <;> decide : ¬ (v25 < (p1 + (4 : Int32))))).2.1 (by decide) (by decide) ?_
                            show Steps p.tables e below (T115.setTop (mkF m 228 #[.val (.ref r0), .val (.int p1), .val (.int p2), .val (.int v1), .val (.int (4 : Int32)), .val (.int v10), .val (.int v11), .val (.int v14), .val (.int v25), .val (.int v22)] [])) _
                            refine XS.iload X115.here hx rfl (hb hby d1_228) rfl ?_
                            exact kt
                          refine own_go hgo133 ?_
                          exact own_retI X115 hx Bd.returns Bd.notSynchronized (hb hby d1_230) (by decide) (by decide) (by rw [e115]; exact ⟨(by subst hv25 hv22 hv21 hv18 hv17 hv14 hv13 hv11 hv10 hv9 hv1; rw [own_r1, if_neg hc12_2, if_neg hc31_3, if_pos hc38_4, if_pos hc58_5, if_neg hc105_6, if_neg hc148_12, if_neg hc168_15, if_neg hc175_16, if_neg hc209_19, if_neg hc217_20, if_neg hc209_23, if_neg hc217_24]), N115, rfl⟩)
        · obtain ⟨v28, hv28⟩ : ∃ z : Int32, z = (if v1 = (237 : Int32) then (159 : Int32) else (191 : Int32)) := ⟨_, rfl⟩
          obtain ⟨v29, hv29⟩ : ∃ z : Int32, z = (if v1 = (224 : Int32) then (160 : Int32) else (128 : Int32)) := ⟨_, rfl⟩
          obtain ⟨v30, hv30⟩ : ∃ z : Int32, z = (if v1 = (224 : Int32) then (191 : Int32) else v28) := ⟨_, rfl⟩
          obtain ⟨T139, lc139, X139, N139, e139, st139⟩ := own_mrg (n0 := n0) (h := h0) (g := (mkF m 68 #[.val (.ref r0), .val (.int p1), .val (.int p2), .val (.int v1), .val (.int (3 : Int32)), .val (.int (128 : Int32)), .val (.int (191 : Int32)), .unset, .unset, .unset] [(.int (224 : Int32)), (.int v1)])) (g' := (mkF m 143 #[.val (.ref r0), .val (.int p1), .val (.int p2), .val (.int v1), .val (.int (3 : Int32)), .val (.int v29), .val (.int v30), .unset, .unset, .unset] [])) X0 (by
            by_cases hc68_26 : v1 = (224 : Int32)
            · have hgo134 : ∀ t, Steps p.tables e below (s₁.setTop (mkF m 143 #[.val (.ref r0), .val (.int p1), .val (.int p2), .val (.int v1), .val (.int (3 : Int32)), .val (.int (160 : Int32)), .val (.int (191 : Int32)), .unset, .unset, .unset] [])) t → Steps p.tables e below (s₁.setTop (mkF m 68 #[.val (.ref r0), .val (.int p1), .val (.int p2), .val (.int v1), .val (.int (3 : Int32)), .val (.int (128 : Int32)), .val (.int (191 : Int32)), .unset, .unset, .unset] [(.int (224 : Int32)), (.int v1)])) t := by
                intro t kt
                show Steps p.tables e below (s₁.setTop (mkF m 68 #[.val (.ref r0), .val (.int p1), .val (.int p2), .val (.int v1), .val (.int (3 : Int32)), .val (.int (128 : Int32)), .val (.int (191 : Int32)), .unset, .unset, .unset] [(.int (224 : Int32)), (.int v1)])) _
                refine XS.icmpNo X0.here hx rfl (hb hby d1_68) rfl (teq hc68_26).2 ?_
                show Steps p.tables e below (s₁.setTop (mkF m 71 #[.val (.ref r0), .val (.int p1), .val (.int p2), .val (.int v1), .val (.int (3 : Int32)), .val (.int (128 : Int32)), .val (.int (191 : Int32)), .unset, .unset, .unset] [])) _
                refine XS.sipush X0.here hx rfl (hb hby d1_71) ?_
                show Steps p.tables e below (s₁.setTop (mkF m 74 #[.val (.ref r0), .val (.int p1), .val (.int p2), .val (.int v1), .val (.int (3 : Int32)), .val (.int (128 : Int32)), .val (.int (191 : Int32)), .unset, .unset, .unset] [(.int (160 : Int32))])) _
                refine XS.istore X0.here hx rfl (hb hby d1_74) rfl (l' := #[.val (.ref r0), .val (.int p1), .val (.int p2), .val (.int v1), .val (.int (3 : Int32)), .val (.int (160 : Int32)), .val (.int (191 : Int32)), .unset, .unset, .unset]) rfl ?_
                show Steps p.tables e below (s₁.setTop (mkF m 76 #[.val (.ref r0), .val (.int p1), .val (.int p2), .val (.int v1), .val (.int (3 : Int32)), .val (.int (160 : Int32)), .val (.int (191 : Int32)), .unset, .unset, .unset] [])) _
                refine XS.goto X0.here hx rfl (pc0 := 76) (pc' := 143) rfl (hb hby d1_76) (by decide) (by decide) ?_
                exact kt
              refine own_arm hgo134 ?_
              exact own_armEnd X0 N0 e0 (by rw [hv29.trans (if_pos hc68_26), hv30.trans (if_pos hc68_26)])
            · obtain ⟨T137, lc137, X137, N137, e137, st137⟩ := own_mrg (n0 := n0) (h := h0) (g := (mkF m 83 #[.val (.ref r0), .val (.int p1), .val (.int p2), .val (.int v1), .val (.int (3 : Int32)), .val (.int (128 : Int32)), .val (.int (191 : Int32)), .unset, .unset, .unset] [(.int (237 : Int32)), (.int v1)])) (g' := (mkF m 143 #[.val (.ref r0), .val (.int p1), .val (.int p2), .val (.int v1), .val (.int (3 : Int32)), .val (.int (128 : Int32)), .val (.int v28), .unset, .unset, .unset] [])) X0 (by
                by_cases hc83_27 : v1 = (237 : Int32)
                · have hgo135 : ∀ t, Steps p.tables e below (s₁.setTop (mkF m 143 #[.val (.ref r0), .val (.int p1), .val (.int p2), .val (.int v1), .val (.int (3 : Int32)), .val (.int (128 : Int32)), .val (.int (159 : Int32)), .unset, .unset, .unset] [])) t → Steps p.tables e below (s₁.setTop (mkF m 83 #[.val (.ref r0), .val (.int p1), .val (.int p2), .val (.int v1), .val (.int (3 : Int32)), .val (.int (128 : Int32)), .val (.int (191 : Int32)), .unset, .unset, .unset] [(.int (237 : Int32)), (.int v1)])) t := by
                    intro t kt
                    show Steps p.tables e below (s₁.setTop (mkF m 83 #[.val (.ref r0), .val (.int p1), .val (.int p2), .val (.int v1), .val (.int (3 : Int32)), .val (.int (128 : Int32)), .val (.int (191 : Int32)), .unset, .unset, .unset] [(.int (237 : Int32)), (.int v1)])) _
                    refine XS.icmpNo X0.here hx rfl (hb hby d1_83) rfl (teq hc83_27).2 ?_
                    show Steps p.tables e below (s₁.setTop (mkF m 86 #[.val (.ref r0), .val (.int p1), .val (.int p2), .val (.int v1), .val (.int (3 : Int32)), .val (.int (128 : Int32)), .val (.int (191 : Int32)), .unset, .unset, .unset] [])) _
                    refine XS.sipush X0.here hx rfl (hb hby d1_86) ?_
                    show Steps p.tables e below (s₁.setTop (mkF m 89 #[.val (.ref r0), .val (.int p1), .val (.int p2), .val (.int v1), .val (.int (3 : Int32)), .val (.int (128 : Int32)), .val (.int (191 : Int32)), .unset, .unset, .unset] [(.int (159 : Int32))])) _
                    refine XS.istore X0.here hx rfl (hb hby d1_89) rfl (l' := #[.val (.ref r0), .val (.int p1), .val (.int p2), .val (.int v1), .val (.int (3 : Int32)), .val (.int (128 : Int32)), .val (.int (159 : Int32)), .unset, .unset, .unset]) rfl ?_
                    show Steps p.tables e below (s₁.setTop (mkF m 91 #[.val (.ref r0), .val (.int p1), .val (.int p2), .val (.int v1), .val (.int (3 : Int32)), .val (.int (128 : Int32)), .val (.int (159 : Int32)), .unset, .unset, .unset] [])) _
                    refine XS.goto X0.here hx rfl (pc0 := 91) (pc' := 143) rfl (hb hby d1_91) (by decide) (by decide) ?_
                    exact kt
                  refine own_arm hgo135 ?_
                  exact own_armEnd X0 N0 e0 (by rw [hv28.trans (if_pos hc83_27)])
                · have hgo136 : ∀ t, Steps p.tables e below (s₁.setTop (mkF m 143 #[.val (.ref r0), .val (.int p1), .val (.int p2), .val (.int v1), .val (.int (3 : Int32)), .val (.int (128 : Int32)), .val (.int (191 : Int32)), .unset, .unset, .unset] [])) t → Steps p.tables e below (s₁.setTop (mkF m 83 #[.val (.ref r0), .val (.int p1), .val (.int p2), .val (.int v1), .val (.int (3 : Int32)), .val (.int (128 : Int32)), .val (.int (191 : Int32)), .unset, .unset, .unset] [(.int (237 : Int32)), (.int v1)])) t := by
                    intro t kt
                    show Steps p.tables e below (s₁.setTop (mkF m 83 #[.val (.ref r0), .val (.int p1), .val (.int p2), .val (.int v1), .val (.int (3 : Int32)), .val (.int (128 : Int32)), .val (.int (191 : Int32)), .unset, .unset, .unset] [(.int (237 : Int32)), (.int v1)])) _
                    refine XS.icmpYes X0.here hx rfl (pc0 := 83) (pc' := 143) rfl (hb hby d1_83) rfl (feq hc83_27).2 (by decide) (by decide) ?_
                    exact kt
                  refine own_arm hgo136 ?_
                  exact own_armEnd X0 N0 e0 (by rw [hv28.trans (if_neg hc83_27)]))
              have hgo138 : ∀ t, Steps p.tables e below (T137.setTop (mkF m 143 #[.val (.ref r0), .val (.int p1), .val (.int p2), .val (.int v1), .val (.int (3 : Int32)), .val (.int (128 : Int32)), .val (.int v28), .unset, .unset, .unset] [])) t → Steps p.tables e below (s₁.setTop (mkF m 68 #[.val (.ref r0), .val (.int p1), .val (.int p2), .val (.int v1), .val (.int (3 : Int32)), .val (.int (128 : Int32)), .val (.int (191 : Int32)), .unset, .unset, .unset] [(.int (224 : Int32)), (.int v1)])) t := by
                intro t kt
                show Steps p.tables e below (s₁.setTop (mkF m 68 #[.val (.ref r0), .val (.int p1), .val (.int p2), .val (.int v1), .val (.int (3 : Int32)), .val (.int (128 : Int32)), .val (.int (191 : Int32)), .unset, .unset, .unset] [(.int (224 : Int32)), (.int v1)])) _
                refine XS.icmpYes X0.here hx rfl (pc0 := 68) (pc' := 79) rfl (hb hby d1_68) rfl (feq hc68_26).2 (by decide) (by decide) ?_
                show Steps p.tables e below (s₁.setTop (mkF m 79 #[.val (.ref r0), .val (.int p1), .val (.int p2), .val (.int v1), .val (.int (3 : Int32)), .val (.int (128 : Int32)), .val (.int (191 : Int32)), .unset, .unset, .unset] [])) _
                refine XS.iloadN X0.here hx rfl (hb hby d1_79) rfl ?_
                show Steps p.tables e below (s₁.setTop (mkF m 80 #[.val (.ref r0), .val (.int p1), .val (.int p2), .val (.int v1), .val (.int (3 : Int32)), .val (.int (128 : Int32)), .val (.int (191 : Int32)), .unset, .unset, .unset] [(.int v1)])) _
                refine XS.sipush X0.here hx rfl (hb hby d1_80) ?_
                show Steps p.tables e below (s₁.setTop (mkF m 83 #[.val (.ref r0), .val (.int p1), .val (.int p2), .val (.int v1), .val (.int (3 : Int32)), .val (.int (128 : Int32)), .val (.int (191 : Int32)), .unset, .unset, .unset] [(.int (237 : Int32)), (.int v1)])) _
                refine st137 _ ?_
                exact kt
              refine own_arm hgo138 ?_
              exact own_armEnd X137 N137 e137 (by rw [hv29.trans (if_neg hc68_26), hv30.trans (if_neg hc68_26)]))
          have hgo140 : ∀ t, Steps p.tables e below (T139.setTop (mkF m 148 #[.val (.ref r0), .val (.int p1), .val (.int p2), .val (.int v1), .val (.int (3 : Int32)), .val (.int v29), .val (.int v30), .unset, .unset, .unset] [(.int (3 : Int32)), (.int (p2 - p1))])) t → Steps p.tables e below (s₁.setTop (mkF m 58 #[.val (.ref r0), .val (.int p1), .val (.int p2), .val (.int v1), .unset, .val (.int (128 : Int32)), .val (.int (191 : Int32)), .unset, .unset, .unset] [(.int (239 : Int32)), (.int v1)])) t := by
            intro t kt
            show Steps p.tables e below (s₁.setTop (mkF m 58 #[.val (.ref r0), .val (.int p1), .val (.int p2), .val (.int v1), .unset, .val (.int (128 : Int32)), .val (.int (191 : Int32)), .unset, .unset, .unset] [(.int (239 : Int32)), (.int v1)])) _
            refine XS.icmpNo X0.here hx rfl (hb hby d1_58) rfl (flt hc58_5).2.2.1 ?_
            show Steps p.tables e below (s₁.setTop (mkF m 61 #[.val (.ref r0), .val (.int p1), .val (.int p2), .val (.int v1), .unset, .val (.int (128 : Int32)), .val (.int (191 : Int32)), .unset, .unset, .unset] [])) _
            refine XS.iconst X0.here hx rfl (hb hby d1_61) ?_
            show Steps p.tables e below (s₁.setTop (mkF m 62 #[.val (.ref r0), .val (.int p1), .val (.int p2), .val (.int v1), .unset, .val (.int (128 : Int32)), .val (.int (191 : Int32)), .unset, .unset, .unset] [(.int (3 : Int32))])) _
            refine XS.istore X0.here hx rfl (hb hby d1_62) rfl (l' := #[.val (.ref r0), .val (.int p1), .val (.int p2), .val (.int v1), .val (.int (3 : Int32)), .val (.int (128 : Int32)), .val (.int (191 : Int32)), .unset, .unset, .unset]) rfl ?_
            show Steps p.tables e below (s₁.setTop (mkF m 64 #[.val (.ref r0), .val (.int p1), .val (.int p2), .val (.int v1), .val (.int (3 : Int32)), .val (.int (128 : Int32)), .val (.int (191 : Int32)), .unset, .unset, .unset] [])) _
            refine XS.iloadN X0.here hx rfl (hb hby d1_64) rfl ?_
            show Steps p.tables e below (s₁.setTop (mkF m 65 #[.val (.ref r0), .val (.int p1), .val (.int p2), .val (.int v1), .val (.int (3 : Int32)), .val (.int (128 : Int32)), .val (.int (191 : Int32)), .unset, .unset, .unset] [(.int v1)])) _
            refine XS.sipush X0.here hx rfl (hb hby d1_65) ?_
            show Steps p.tables e below (s₁.setTop (mkF m 68 #[.val (.ref r0), .val (.int p1), .val (.int p2), .val (.int v1), .val (.int (3 : Int32)), .val (.int (128 : Int32)), .val (.int (191 : Int32)), .unset, .unset, .unset] [(.int (224 : Int32)), (.int v1)])) _
            refine st139 _ ?_
            show Steps p.tables e below (T139.setTop (mkF m 143 #[.val (.ref r0), .val (.int p1), .val (.int p2), .val (.int v1), .val (.int (3 : Int32)), .val (.int v29), .val (.int v30), .unset, .unset, .unset] [])) _
            refine XS.iloadN X139.here hx rfl (hb hby d1_143) rfl ?_
            show Steps p.tables e below (T139.setTop (mkF m 144 #[.val (.ref r0), .val (.int p1), .val (.int p2), .val (.int v1), .val (.int (3 : Int32)), .val (.int v29), .val (.int v30), .unset, .unset, .unset] [(.int p2)])) _
            refine XS.iloadN X139.here hx rfl (hb hby d1_144) rfl ?_
            show Steps p.tables e below (T139.setTop (mkF m 145 #[.val (.ref r0), .val (.int p1), .val (.int p2), .val (.int v1), .val (.int (3 : Int32)), .val (.int v29), .val (.int v30), .unset, .unset, .unset] [(.int p1), (.int p2)])) _
            refine XS.isub X139.here hx rfl (hb hby d1_145) rfl ?_
            show Steps p.tables e below (T139.setTop (mkF m 146 #[.val (.ref r0), .val (.int p1), .val (.int p2), .val (.int v1), .val (.int (3 : Int32)), .val (.int v29), .val (.int v30), .unset, .unset, .unset] [(.int (p2 - p1))])) _
            refine XS.iload X139.here hx rfl (hb hby d1_146) rfl ?_
            exact kt
          refine own_go hgo140 ?_
          by_cases hc148_31 : (p2 - p1) < (3 : Int32)
          · have hgo141 : ∀ t, Steps p.tables e below (T139.setTop (mkF m 152 #[.val (.ref r0), .val (.int p1), .val (.int p2), .val (.int v1), .val (.int (3 : Int32)), .val (.int v29), .val (.int v30), .unset, .unset, .unset] [(.int (0 : Int32))])) t → Steps p.tables e below (T139.setTop (mkF m 148 #[.val (.ref r0), .val (.int p1), .val (.int p2), .val (.int v1), .val (.int (3 : Int32)), .val (.int v29), .val (.int v30), .unset, .unset, .unset] [(.int (3 : Int32)), (.int (p2 - p1))])) t := by
              intro t kt
              show Steps p.tables e below (T139.setTop (mkF m 148 #[.val (.ref r0), .val (.int p1), .val (.int p2), .val (.int v1), .val (.int (3 : Int32)), .val (.int v29), .val (.int v30), .unset, .unset, .unset] [(.int (3 : Int32)), (.int (p2 - p1))])) _
              refine XS.icmpNo X139.here hx rfl (hb hby d1_148) rfl (tlt hc148_31).2.1 ?_
              show Steps p.tables e below (T139.setTop (mkF m 151 #[.val (.ref r0), .val (.int p1), .val (.int p2), .val (.int v1), .val (.int (3 : Int32)), .val (.int v29), .val (.int v30), .unset, .unset, .unset] [])) _
              refine XS.iconst X139.here hx rfl (hb hby d1_151) ?_
              exact kt
            refine own_go hgo141 ?_
            exact own_retI X139 hx Bd.returns Bd.notSynchronized (hb hby d1_152) (by decide) (by decide) (by rw [e139]; exact ⟨(by subst hv30 hv29 hv28 hv1; rw [own_r1, if_neg hc12_2, if_neg hc31_3, if_pos hc38_4, if_neg hc58_5, if_pos hc148_31]), N139, rfl⟩)
          · obtain ⟨v32, hv32⟩ : ∃ z : Int32, z = (p1 + (1 : Int32)) := ⟨_, rfl⟩
            have hin157_142 : ¬ v32 < 0 ∧ v32.toNatClampNeg < 5 := by rw [hv32]; rcases hp with q | q <;> rw [q] <;> decide
            obtain ⟨v33, hv33⟩ : ∃ z : Int32, z = ((f v32.toNatClampNeg) &&& (255 : Int32)) := ⟨_, rfl⟩
            have hgo143 : ∀ t, Steps p.tables e below (T139.setTop (mkF m 168 #[.val (.ref r0), .val (.int p1), .val (.int p2), .val (.int v1), .val (.int (3 : Int32)), .val (.int v29), .val (.int v30), .val (.int v33), .unset, .unset] [(.int v29), (.int v33)])) t → Steps p.tables e below (T139.setTop (mkF m 148 #[.val (.ref r0), .val (.int p1), .val (.int p2), .val (.int v1), .val (.int (3 : Int32)), .val (.int v29), .val (.int v30), .unset, .unset, .unset] [(.int (3 : Int32)), (.int (p2 - p1))])) t := by
              intro t kt
              show Steps p.tables e below (T139.setTop (mkF m 148 #[.val (.ref r0), .val (.int p1), .val (.int p2), .val (.int v1), .val (.int (3 : Int32)), .val (.int v29), .val (.int v30), .unset, .unset, .unset] [(.int (3 : Int32)), (.int (p2 - p1))])) _
              refine XS.icmpYes X139.here hx rfl (pc0 := 148) (pc' := 153) rfl (hb hby d1_148) rfl (flt hc148_31).2.1 (by decide) (by decide) ?_
              show Steps p.tables e below (T139.setTop (mkF m 153 #[.val (.ref r0), .val (.int p1), .val (.int p2), .val (.int v1), .val (.int (3 : Int32)), .val (.int v29), .val (.int v30), .unset, .unset, .unset] [])) _
              refine XS.aloadN X139.here hx rfl (hb hby d1_153) rfl rfl ?_
              show Steps p.tables e below (T139.setTop (mkF m 154 #[.val (.ref r0), .val (.int p1), .val (.int p2), .val (.int v1), .val (.int (3 : Int32)), .val (.int v29), .val (.int v30), .unset, .unset, .unset] [(.ref r0)])) _
              refine XS.iloadN X139.here hx rfl (hb hby d1_154) rfl ?_
              show Steps p.tables e below (T139.setTop (mkF m 155 #[.val (.ref r0), .val (.int p1), .val (.int p2), .val (.int v1), .val (.int (3 : Int32)), .val (.int v29), .val (.int v30), .unset, .unset, .unset] [(.int p1), (.ref r0)])) _
              refine XS.iconst X139.here hx rfl (hb hby d1_155) ?_
              show Steps p.tables e below (T139.setTop (mkF m 156 #[.val (.ref r0), .val (.int p1), .val (.int p2), .val (.int v1), .val (.int (3 : Int32)), .val (.int v29), .val (.int v30), .unset, .unset, .unset] [(.int (1 : Int32)), (.int p1), (.ref r0)])) _
              refine XS.iadd X139.here hx rfl (hb hby d1_156) rfl ?_
              show Steps p.tables e below (T139.setTop (mkF m 157 #[.val (.ref r0), .val (.int p1), .val (.int p2), .val (.int v1), .val (.int (3 : Int32)), .val (.int v29), .val (.int v30), .unset, .unset, .unset] [(.int (p1 + (1 : Int32))), (.ref r0)])) _
              rw [← hv32]
              refine own_ldB X139 hx hZ e139 A_r0 (j := v32) hin157_142 (g := (mkF m 157 #[.val (.ref r0), .val (.int p1), .val (.int p2), .val (.int v1), .val (.int (3 : Int32)), .val (.int v29), .val (.int v30), .unset, .unset, .unset] [(.int v32), (.ref r0)])) rfl rfl (hb hby d1_157) _ ?_
              show Steps p.tables e below (T139.setTop (mkF m 158 #[.val (.ref r0), .val (.int p1), .val (.int p2), .val (.int v1), .val (.int (3 : Int32)), .val (.int v29), .val (.int v30), .unset, .unset, .unset] [(.int (f v32.toNatClampNeg))])) _
              refine XS.sipush X139.here hx rfl (hb hby d1_158) ?_
              show Steps p.tables e below (T139.setTop (mkF m 161 #[.val (.ref r0), .val (.int p1), .val (.int p2), .val (.int v1), .val (.int (3 : Int32)), .val (.int v29), .val (.int v30), .unset, .unset, .unset] [(.int (255 : Int32)), (.int (f v32.toNatClampNeg))])) _
              refine XS.iand X139.here hx rfl (hb hby d1_161) rfl ?_
              show Steps p.tables e below (T139.setTop (mkF m 162 #[.val (.ref r0), .val (.int p1), .val (.int p2), .val (.int v1), .val (.int (3 : Int32)), .val (.int v29), .val (.int v30), .unset, .unset, .unset] [(.int ((f v32.toNatClampNeg) &&& (255 : Int32)))])) _
              rw [← hv33]
              show Steps p.tables e below (T139.setTop (mkF m 162 #[.val (.ref r0), .val (.int p1), .val (.int p2), .val (.int v1), .val (.int (3 : Int32)), .val (.int v29), .val (.int v30), .unset, .unset, .unset] [(.int v33)])) _
              refine XS.istore X139.here hx rfl (hb hby d1_162) rfl (l' := #[.val (.ref r0), .val (.int p1), .val (.int p2), .val (.int v1), .val (.int (3 : Int32)), .val (.int v29), .val (.int v30), .val (.int v33), .unset, .unset]) rfl ?_
              show Steps p.tables e below (T139.setTop (mkF m 164 #[.val (.ref r0), .val (.int p1), .val (.int p2), .val (.int v1), .val (.int (3 : Int32)), .val (.int v29), .val (.int v30), .val (.int v33), .unset, .unset] [])) _
              refine XS.iload X139.here hx rfl (hb hby d1_164) rfl ?_
              show Steps p.tables e below (T139.setTop (mkF m 166 #[.val (.ref r0), .val (.int p1), .val (.int p2), .val (.int v1), .val (.int (3 : Int32)), .val (.int v29), .val (.int v30), .val (.int v33), .unset, .unset] [(.int v33)])) _
              refine XS.iload X139.here hx rfl (hb hby d1_166) rfl ?_
              exact kt
            refine own_go hgo143 ?_
            by_cases hc168_34 : v33 < v29
            · have hgo144 : ∀ t, Steps p.tables e below (T139.setTop (mkF m 179 #[.val (.ref r0), .val (.int p1), .val (.int p2), .val (.int v1), .val (.int (3 : Int32)), .val (.int v29), .val (.int v30), .val (.int v33), .unset, .unset] [(.int (0 : Int32))])) t → Steps p.tables e below (T139.setTop (mkF m 168 #[.val (.ref r0), .val (.int p1), .val (.int p2), .val (.int v1), .val (.int (3 : Int32)), .val (.int v29), .val (.int v30), .val (.int v33), .unset, .unset] [(.int v29), (.int v33)])) t := by
                intro t kt
                show Steps p.tables e below (T139.setTop (mkF m 168 #[.val (.ref r0), .val (.int p1), .val (.int p2), .val (.int v1), .val (.int (3 : Int32)), .val (.int v29), .val (.int v30), .val (.int v33), .unset, .unset] [(.int v29), (.int v33)])) _
                refine XS.icmpYes X139.here hx rfl (pc0 := 168) (pc' := 178) rfl (hb hby d1_168) rfl (tlt hc168_34).1 (by decide) (by decide) ?_
                show Steps p.tables e below (T139.setTop (mkF m 178 #[.val (.ref r0), .val (.int p1), .val (.int p2), .val (.int v1), .val (.int (3 : Int32)), .val (.int v29), .val (.int v30), .val (.int v33), .unset, .unset] [])) _
                refine XS.iconst X139.here hx rfl (hb hby d1_178) ?_
                exact kt
              refine own_go hgo144 ?_
              exact own_retI X139 hx Bd.returns Bd.notSynchronized (hb hby d1_179) (by decide) (by decide) (by rw [e139]; exact ⟨(by subst hv33 hv32 hv30 hv29 hv28 hv1; rw [own_r1, if_neg hc12_2, if_neg hc31_3, if_pos hc38_4, if_neg hc58_5, if_neg hc148_31, if_pos hc168_34]), N139, rfl⟩)
            · have hgo145 : ∀ t, Steps p.tables e below (T139.setTop (mkF m 175 #[.val (.ref r0), .val (.int p1), .val (.int p2), .val (.int v1), .val (.int (3 : Int32)), .val (.int v29), .val (.int v30), .val (.int v33), .unset, .unset] [(.int v30), (.int v33)])) t → Steps p.tables e below (T139.setTop (mkF m 168 #[.val (.ref r0), .val (.int p1), .val (.int p2), .val (.int v1), .val (.int (3 : Int32)), .val (.int v29), .val (.int v30), .val (.int v33), .unset, .unset] [(.int v29), (.int v33)])) t := by
                intro t kt
                show Steps p.tables e below (T139.setTop (mkF m 168 #[.val (.ref r0), .val (.int p1), .val (.int p2), .val (.int v1), .val (.int (3 : Int32)), .val (.int v29), .val (.int v30), .val (.int v33), .unset, .unset] [(.int v29), (.int v33)])) _
                refine XS.icmpNo X139.here hx rfl (hb hby d1_168) rfl (flt hc168_34).1 ?_
                show Steps p.tables e below (T139.setTop (mkF m 171 #[.val (.ref r0), .val (.int p1), .val (.int p2), .val (.int v1), .val (.int (3 : Int32)), .val (.int v29), .val (.int v30), .val (.int v33), .unset, .unset] [])) _
                refine XS.iload X139.here hx rfl (hb hby d1_171) rfl ?_
                show Steps p.tables e below (T139.setTop (mkF m 173 #[.val (.ref r0), .val (.int p1), .val (.int p2), .val (.int v1), .val (.int (3 : Int32)), .val (.int v29), .val (.int v30), .val (.int v33), .unset, .unset] [(.int v33)])) _
                refine XS.iload X139.here hx rfl (hb hby d1_173) rfl ?_
                exact kt
              refine own_go hgo145 ?_
              by_cases hc175_35 : v30 < v33
              · have hgo146 : ∀ t, Steps p.tables e below (T139.setTop (mkF m 179 #[.val (.ref r0), .val (.int p1), .val (.int p2), .val (.int v1), .val (.int (3 : Int32)), .val (.int v29), .val (.int v30), .val (.int v33), .unset, .unset] [(.int (0 : Int32))])) t → Steps p.tables e below (T139.setTop (mkF m 175 #[.val (.ref r0), .val (.int p1), .val (.int p2), .val (.int v1), .val (.int (3 : Int32)), .val (.int v29), .val (.int v30), .val (.int v33), .unset, .unset] [(.int v30), (.int v33)])) t := by
                  intro t kt
                  show Steps p.tables e below (T139.setTop (mkF m 175 #[.val (.ref r0), .val (.int p1), .val (.int p2), .val (.int v1), .val (.int (3 : Int32)), .val (.int v29), .val (.int v30), .val (.int v33), .unset, .unset] [(.int v30), (.int v33)])) _
                  refine XS.icmpNo X139.here hx rfl (hb hby d1_175) rfl (tlt hc175_35).2.2.2 ?_
                  show Steps p.tables e below (T139.setTop (mkF m 178 #[.val (.ref r0), .val (.int p1), .val (.int p2), .val (.int v1), .val (.int (3 : Int32)), .val (.int v29), .val (.int v30), .val (.int v33), .unset, .unset] [])) _
                  refine XS.iconst X139.here hx rfl (hb hby d1_178) ?_
                  exact kt
                refine own_go hgo146 ?_
                exact own_retI X139 hx Bd.returns Bd.notSynchronized (hb hby d1_179) (by decide) (by decide) (by rw [e139]; exact ⟨(by subst hv33 hv32 hv30 hv29 hv28 hv1; rw [own_r1, if_neg hc12_2, if_neg hc31_3, if_pos hc38_4, if_neg hc58_5, if_neg hc148_31, if_neg hc168_34, if_pos hc175_35]), N139, rfl⟩)
              · obtain ⟨v36, hv36⟩ : ∃ z : Int32, z = (p1 + (2 : Int32)) := ⟨_, rfl⟩
                have hin197_147 : ¬ v36 < 0 ∧ v36.toNatClampNeg < 5 := by rw [hv36]; rcases hp with q | q <;> rw [q] <;> decide
                obtain ⟨v37, hv37⟩ : ∃ z : Int32, z = ((f v36.toNatClampNeg) &&& (255 : Int32)) := ⟨_, rfl⟩
                have hgo148 : ∀ t, Steps p.tables e below (T139.setTop (mkF m 209 #[.val (.ref r0), .val (.int p1), .val (.int p2), .val (.int v1), .val (.int (3 : Int32)), .val (.int v29), .val (.int v30), .val (.int v33), .val (.int v36), .val (.int v37)] [(.int (128 : Int32)), (.int v37)])) t → Steps p.tables e below (T139.setTop (mkF m 175 #[.val (.ref r0), .val (.int p1), .val (.int p2), .val (.int v1), .val (.int (3 : Int32)), .val (.int v29), .val (.int v30), .val (.int v33), .unset, .unset] [(.int v30), (.int v33)])) t := by
                  intro t kt
                  show Steps p.tables e below (T139.setTop (mkF m 175 #[.val (.ref r0), .val (.int p1), .val (.int p2), .val (.int v1), .val (.int (3 : Int32)), .val (.int v29), .val (.int v30), .val (.int v33), .unset, .unset] [(.int v30), (.int v33)])) _
                  refine XS.icmpYes X139.here hx rfl (pc0 := 175) (pc' := 180) rfl (hb hby d1_175) rfl (flt hc175_35).2.2.2 (by decide) (by decide) ?_
                  show Steps p.tables e below (T139.setTop (mkF m 180 #[.val (.ref r0), .val (.int p1), .val (.int p2), .val (.int v1), .val (.int (3 : Int32)), .val (.int v29), .val (.int v30), .val (.int v33), .unset, .unset] [])) _
                  refine XS.iloadN X139.here hx rfl (hb hby d1_180) rfl ?_
                  show Steps p.tables e below (T139.setTop (mkF m 181 #[.val (.ref r0), .val (.int p1), .val (.int p2), .val (.int v1), .val (.int (3 : Int32)), .val (.int v29), .val (.int v30), .val (.int v33), .unset, .unset] [(.int p1)])) _
                  refine XS.iconst X139.here hx rfl (hb hby d1_181) ?_
                  show Steps p.tables e below (T139.setTop (mkF m 182 #[.val (.ref r0), .val (.int p1), .val (.int p2), .val (.int v1), .val (.int (3 : Int32)), .val (.int v29), .val (.int v30), .val (.int v33), .unset, .unset] [(.int (2 : Int32)), (.int p1)])) _
                  refine XS.iadd X139.here hx rfl (hb hby d1_182) rfl ?_
                  show Steps p.tables e below (T139.setTop (mkF m 183 #[.val (.ref r0), .val (.int p1), .val (.int p2), .val (.int v1), .val (.int (3 : Int32)), .val (.int v29), .val (.int v30), .val (.int v33), .unset, .unset] [(.int (p1 + (2 : Int32)))])) _
                  rw [← hv36]
                  show Steps p.tables e below (T139.setTop (mkF m 183 #[.val (.ref r0), .val (.int p1), .val (.int p2), .val (.int v1), .val (.int (3 : Int32)), .val (.int v29), .val (.int v30), .val (.int v33), .unset, .unset] [(.int v36)])) _
                  refine XS.istore X139.here hx rfl (hb hby d1_183) rfl (l' := #[.val (.ref r0), .val (.int p1), .val (.int p2), .val (.int v1), .val (.int (3 : Int32)), .val (.int v29), .val (.int v30), .val (.int v33), .val (.int v36), .unset]) rfl ?_
                  show Steps p.tables e below (T139.setTop (mkF m 185 #[.val (.ref r0), .val (.int p1), .val (.int p2), .val (.int v1), .val (.int (3 : Int32)), .val (.int v29), .val (.int v30), .val (.int v33), .val (.int v36), .unset] [])) _
                  refine XS.iload X139.here hx rfl (hb hby d1_185) rfl ?_
                  show Steps p.tables e below (T139.setTop (mkF m 187 #[.val (.ref r0), .val (.int p1), .val (.int p2), .val (.int v1), .val (.int (3 : Int32)), .val (.int v29), .val (.int v30), .val (.int v33), .val (.int v36), .unset] [(.int v36)])) _
                  refine XS.iloadN X139.here hx rfl (hb hby d1_187) rfl ?_
                  show Steps p.tables e below (T139.setTop (mkF m 188 #[.val (.ref r0), .val (.int p1), .val (.int p2), .val (.int v1), .val (.int (3 : Int32)), .val (.int v29), .val (.int v30), .val (.int v33), .val (.int v36), .unset] [(.int p1), (.int v36)])) _
                  refine XS.iload X139.here hx rfl (hb hby d1_188) rfl ?_
                  show Steps p.tables e below (T139.setTop (mkF m 190 #[.val (.ref r0), .val (.int p1), .val (.int p2), .val (.int v1), .val (.int (3 : Int32)), .val (.int v29), .val (.int v30), .val (.int v33), .val (.int v36), .unset] [(.int (3 : Int32)), (.int p1), (.int v36)])) _
                  refine XS.iadd X139.here hx rfl (hb hby d1_190) rfl ?_
                  show Steps p.tables e below (T139.setTop (mkF m 191 #[.val (.ref r0), .val (.int p1), .val (.int p2), .val (.int v1), .val (.int (3 : Int32)), .val (.int v29), .val (.int v30), .val (.int v33), .val (.int v36), .unset] [(.int (p1 + (3 : Int32))), (.int v36)])) _
                  refine XS.icmpNo X139.here hx rfl (hb hby d1_191) rfl (tlt (by rw [hv36]; rcases hp with q | q <;> rw [q] <;> decide : v36 < (p1 + (3 : Int32)))).2.1 ?_
                  show Steps p.tables e below (T139.setTop (mkF m 194 #[.val (.ref r0), .val (.int p1), .val (.int p2), .val (.int v1), .val (.int (3 : Int32)), .val (.int v29), .val (.int v30), .val (.int v33), .val (.int v36), .unset] [])) _
                  refine XS.aloadN X139.here hx rfl (hb hby d1_194) rfl rfl ?_
                  show Steps p.tables e below (T139.setTop (mkF m 195 #[.val (.ref r0), .val (.int p1), .val (.int p2), .val (.int v1), .val (.int (3 : Int32)), .val (.int v29), .val (.int v30), .val (.int v33), .val (.int v36), .unset] [(.ref r0)])) _
                  refine XS.iload X139.here hx rfl (hb hby d1_195) rfl ?_
                  show Steps p.tables e below (T139.setTop (mkF m 197 #[.val (.ref r0), .val (.int p1), .val (.int p2), .val (.int v1), .val (.int (3 : Int32)), .val (.int v29), .val (.int v30), .val (.int v33), .val (.int v36), .unset] [(.int v36), (.ref r0)])) _
                  refine own_ldB X139 hx hZ e139 A_r0 (j := v36) hin197_147 (g := (mkF m 197 #[.val (.ref r0), .val (.int p1), .val (.int p2), .val (.int v1), .val (.int (3 : Int32)), .val (.int v29), .val (.int v30), .val (.int v33), .val (.int v36), .unset] [(.int v36), (.ref r0)])) rfl rfl (hb hby d1_197) _ ?_
                  show Steps p.tables e below (T139.setTop (mkF m 198 #[.val (.ref r0), .val (.int p1), .val (.int p2), .val (.int v1), .val (.int (3 : Int32)), .val (.int v29), .val (.int v30), .val (.int v33), .val (.int v36), .unset] [(.int (f v36.toNatClampNeg))])) _
                  refine XS.sipush X139.here hx rfl (hb hby d1_198) ?_
                  show Steps p.tables e below (T139.setTop (mkF m 201 #[.val (.ref r0), .val (.int p1), .val (.int p2), .val (.int v1), .val (.int (3 : Int32)), .val (.int v29), .val (.int v30), .val (.int v33), .val (.int v36), .unset] [(.int (255 : Int32)), (.int (f v36.toNatClampNeg))])) _
                  refine XS.iand X139.here hx rfl (hb hby d1_201) rfl ?_
                  show Steps p.tables e below (T139.setTop (mkF m 202 #[.val (.ref r0), .val (.int p1), .val (.int p2), .val (.int v1), .val (.int (3 : Int32)), .val (.int v29), .val (.int v30), .val (.int v33), .val (.int v36), .unset] [(.int ((f v36.toNatClampNeg) &&& (255 : Int32)))])) _
                  rw [← hv37]
                  show Steps p.tables e below (T139.setTop (mkF m 202 #[.val (.ref r0), .val (.int p1), .val (.int p2), .val (.int v1), .val (.int (3 : Int32)), .val (.int v29), .val (.int v30), .val (.int v33), .val (.int v36), .unset] [(.int v37)])) _
                  refine XS.istore X139.here hx rfl (hb hby d1_202) rfl (l' := #[.val (.ref r0), .val (.int p1), .val (.int p2), .val (.int v1), .val (.int (3 : Int32)), .val (.int v29), .val (.int v30), .val (.int v33), .val (.int v36), .val (.int v37)]) rfl ?_
                  show Steps p.tables e below (T139.setTop (mkF m 204 #[.val (.ref r0), .val (.int p1), .val (.int p2), .val (.int v1), .val (.int (3 : Int32)), .val (.int v29), .val (.int v30), .val (.int v33), .val (.int v36), .val (.int v37)] [])) _
                  refine XS.iload X139.here hx rfl (hb hby d1_204) rfl ?_
                  show Steps p.tables e below (T139.setTop (mkF m 206 #[.val (.ref r0), .val (.int p1), .val (.int p2), .val (.int v1), .val (.int (3 : Int32)), .val (.int v29), .val (.int v30), .val (.int v33), .val (.int v36), .val (.int v37)] [(.int v37)])) _
                  refine XS.sipush X139.here hx rfl (hb hby d1_206) ?_
                  exact kt
                refine own_go hgo148 ?_
                by_cases hc209_38 : v37 < (128 : Int32)
                · have hgo149 : ∀ t, Steps p.tables e below (T139.setTop (mkF m 221 #[.val (.ref r0), .val (.int p1), .val (.int p2), .val (.int v1), .val (.int (3 : Int32)), .val (.int v29), .val (.int v30), .val (.int v33), .val (.int v36), .val (.int v37)] [(.int (0 : Int32))])) t → Steps p.tables e below (T139.setTop (mkF m 209 #[.val (.ref r0), .val (.int p1), .val (.int p2), .val (.int v1), .val (.int (3 : Int32)), .val (.int v29), .val (.int v30), .val (.int v33), .val (.int v36), .val (.int v37)] [(.int (128 : Int32)), (.int v37)])) t := by
                    intro t kt
                    show Steps p.tables e below (T139.setTop (mkF m 209 #[.val (.ref r0), .val (.int p1), .val (.int p2), .val (.int v1), .val (.int (3 : Int32)), .val (.int v29), .val (.int v30), .val (.int v33), .val (.int v36), .val (.int v37)] [(.int (128 : Int32)), (.int v37)])) _
                    refine XS.icmpYes X139.here hx rfl (pc0 := 209) (pc' := 220) rfl (hb hby d1_209) rfl (tlt hc209_38).1 (by decide) (by decide) ?_
                    show Steps p.tables e below (T139.setTop (mkF m 220 #[.val (.ref r0), .val (.int p1), .val (.int p2), .val (.int v1), .val (.int (3 : Int32)), .val (.int v29), .val (.int v30), .val (.int v33), .val (.int v36), .val (.int v37)] [])) _
                    refine XS.iconst X139.here hx rfl (hb hby d1_220) ?_
                    exact kt
                  refine own_go hgo149 ?_
                  exact own_retI X139 hx Bd.returns Bd.notSynchronized (hb hby d1_221) (by decide) (by decide) (by rw [e139]; exact ⟨(by subst hv37 hv36 hv33 hv32 hv30 hv29 hv28 hv1; rw [own_r1, if_neg hc12_2, if_neg hc31_3, if_pos hc38_4, if_neg hc58_5, if_neg hc148_31, if_neg hc168_34, if_neg hc175_35, if_pos hc209_38]), N139, rfl⟩)
                · have hgo150 : ∀ t, Steps p.tables e below (T139.setTop (mkF m 217 #[.val (.ref r0), .val (.int p1), .val (.int p2), .val (.int v1), .val (.int (3 : Int32)), .val (.int v29), .val (.int v30), .val (.int v33), .val (.int v36), .val (.int v37)] [(.int (191 : Int32)), (.int v37)])) t → Steps p.tables e below (T139.setTop (mkF m 209 #[.val (.ref r0), .val (.int p1), .val (.int p2), .val (.int v1), .val (.int (3 : Int32)), .val (.int v29), .val (.int v30), .val (.int v33), .val (.int v36), .val (.int v37)] [(.int (128 : Int32)), (.int v37)])) t := by
                    intro t kt
                    show Steps p.tables e below (T139.setTop (mkF m 209 #[.val (.ref r0), .val (.int p1), .val (.int p2), .val (.int v1), .val (.int (3 : Int32)), .val (.int v29), .val (.int v30), .val (.int v33), .val (.int v36), .val (.int v37)] [(.int (128 : Int32)), (.int v37)])) _
                    refine XS.icmpNo X139.here hx rfl (hb hby d1_209) rfl (flt hc209_38).1 ?_
                    show Steps p.tables e below (T139.setTop (mkF m 212 #[.val (.ref r0), .val (.int p1), .val (.int p2), .val (.int v1), .val (.int (3 : Int32)), .val (.int v29), .val (.int v30), .val (.int v33), .val (.int v36), .val (.int v37)] [])) _
                    refine XS.iload X139.here hx rfl (hb hby d1_212) rfl ?_
                    show Steps p.tables e below (T139.setTop (mkF m 214 #[.val (.ref r0), .val (.int p1), .val (.int p2), .val (.int v1), .val (.int (3 : Int32)), .val (.int v29), .val (.int v30), .val (.int v33), .val (.int v36), .val (.int v37)] [(.int v37)])) _
                    refine XS.sipush X139.here hx rfl (hb hby d1_214) ?_
                    exact kt
                  refine own_go hgo150 ?_
                  by_cases hc217_39 : (191 : Int32) < v37
                  · have hgo151 : ∀ t, Steps p.tables e below (T139.setTop (mkF m 221 #[.val (.ref r0), .val (.int p1), .val (.int p2), .val (.int v1), .val (.int (3 : Int32)), .val (.int v29), .val (.int v30), .val (.int v33), .val (.int v36), .val (.int v37)] [(.int (0 : Int32))])) t → Steps p.tables e below (T139.setTop (mkF m 217 #[.val (.ref r0), .val (.int p1), .val (.int p2), .val (.int v1), .val (.int (3 : Int32)), .val (.int v29), .val (.int v30), .val (.int v33), .val (.int v36), .val (.int v37)] [(.int (191 : Int32)), (.int v37)])) t := by
                      intro t kt
                      show Steps p.tables e below (T139.setTop (mkF m 217 #[.val (.ref r0), .val (.int p1), .val (.int p2), .val (.int v1), .val (.int (3 : Int32)), .val (.int v29), .val (.int v30), .val (.int v33), .val (.int v36), .val (.int v37)] [(.int (191 : Int32)), (.int v37)])) _
                      refine XS.icmpNo X139.here hx rfl (hb hby d1_217) rfl (tlt hc217_39).2.2.2 ?_
                      show Steps p.tables e below (T139.setTop (mkF m 220 #[.val (.ref r0), .val (.int p1), .val (.int p2), .val (.int v1), .val (.int (3 : Int32)), .val (.int v29), .val (.int v30), .val (.int v33), .val (.int v36), .val (.int v37)] [])) _
                      refine XS.iconst X139.here hx rfl (hb hby d1_220) ?_
                      exact kt
                    refine own_go hgo151 ?_
                    exact own_retI X139 hx Bd.returns Bd.notSynchronized (hb hby d1_221) (by decide) (by decide) (by rw [e139]; exact ⟨(by subst hv37 hv36 hv33 hv32 hv30 hv29 hv28 hv1; rw [own_r1, if_neg hc12_2, if_neg hc31_3, if_pos hc38_4, if_neg hc58_5, if_neg hc148_31, if_neg hc168_34, if_neg hc175_35, if_neg hc209_38, if_pos hc217_39]), N139, rfl⟩)
                  · obtain ⟨v40, hv40⟩ : ∃ z : Int32, z = (v36 + (1 : Int32)) := ⟨_, rfl⟩
                    have hgo152 : ∀ t, Steps p.tables e below (T139.setTop (mkF m 230 #[.val (.ref r0), .val (.int p1), .val (.int p2), .val (.int v1), .val (.int (3 : Int32)), .val (.int v29), .val (.int v30), .val (.int v33), .val (.int v40), .val (.int v37)] [(.int (3 : Int32))])) t → Steps p.tables e below (T139.setTop (mkF m 217 #[.val (.ref r0), .val (.int p1), .val (.int p2), .val (.int v1), .val (.int (3 : Int32)), .val (.int v29), .val (.int v30), .val (.int v33), .val (.int v36), .val (.int v37)] [(.int (191 : Int32)), (.int v37)])) t := by
                      intro t kt
                      show Steps p.tables e below (T139.setTop (mkF m 217 #[.val (.ref r0), .val (.int p1), .val (.int p2), .val (.int v1), .val (.int (3 : Int32)), .val (.int v29), .val (.int v30), .val (.int v33), .val (.int v36), .val (.int v37)] [(.int (191 : Int32)), (.int v37)])) _
                      refine XS.icmpYes X139.here hx rfl (pc0 := 217) (pc' := 222) rfl (hb hby d1_217) rfl (flt hc217_39).2.2.2 (by decide) (by decide) ?_
                      show Steps p.tables e below (T139.setTop (mkF m 222 #[.val (.ref r0), .val (.int p1), .val (.int p2), .val (.int v1), .val (.int (3 : Int32)), .val (.int v29), .val (.int v30), .val (.int v33), .val (.int v36), .val (.int v37)] [])) _
                      refine XS.iinc X139.here hx rfl (hb hby d1_222) rfl (l' := #[.val (.ref r0), .val (.int p1), .val (.int p2), .val (.int v1), .val (.int (3 : Int32)), .val (.int v29), .val (.int v30), .val (.int v33), .val (.int (v36 + (1 : Int32))), .val (.int v37)]) rfl ?_
                      rw [← hv40]
                      show Steps p.tables e below (T139.setTop (mkF m 225 #[.val (.ref r0), .val (.int p1), .val (.int p2), .val (.int v1), .val (.int (3 : Int32)), .val (.int v29), .val (.int v30), .val (.int v33), .val (.int v40), .val (.int v37)] [])) _
                      refine XS.goto X139.here hx rfl (pc0 := 225) (pc' := 185) rfl (hb hby d1_225) (by decide) (by decide) ?_
                      show Steps p.tables e below (T139.setTop (mkF m 185 #[.val (.ref r0), .val (.int p1), .val (.int p2), .val (.int v1), .val (.int (3 : Int32)), .val (.int v29), .val (.int v30), .val (.int v33), .val (.int v40), .val (.int v37)] [])) _
                      refine XS.iload X139.here hx rfl (hb hby d1_185) rfl ?_
                      show Steps p.tables e below (T139.setTop (mkF m 187 #[.val (.ref r0), .val (.int p1), .val (.int p2), .val (.int v1), .val (.int (3 : Int32)), .val (.int v29), .val (.int v30), .val (.int v33), .val (.int v40), .val (.int v37)] [(.int v40)])) _
                      refine XS.iloadN X139.here hx rfl (hb hby d1_187) rfl ?_
                      show Steps p.tables e below (T139.setTop (mkF m 188 #[.val (.ref r0), .val (.int p1), .val (.int p2), .val (.int v1), .val (.int (3 : Int32)), .val (.int v29), .val (.int v30), .val (.int v33), .val (.int v40), .val (.int v37)] [(.int p1), (.int v40)])) _
                      refine XS.iload X139.here hx rfl (hb hby d1_188) rfl ?_
                      show Steps p.tables e below (T139.setTop (mkF m 190 #[.val (.ref r0), .val (.int p1), .val (.int p2), .val (.int v1), .val (.int (3 : Int32)), .val (.int v29), .val (.int v30), .val (.int v33), .val (.int v40), .val (.int v37)] [(.int (3 : Int32)), (.int p1), (.int v40)])) _
                      refine XS.iadd X139.here hx rfl (hb hby d1_190) rfl ?_
                      show Steps p.tables e below (T139.setTop (mkF m 191 #[.val (.ref r0), .val (.int p1), .val (.int p2), .val (.int v1), .val (.int (3 : Int32)), .val (.int v29), .val (.int v30), .val (.int v33), .val (.int v40), .val (.int v37)] [(.int (p1 + (3 : Int32))), (.int v40)])) _
                      refine XS.icmpYes X139.here hx rfl (pc0 := 191) (pc' := 228) rfl (hb hby d1_191) rfl (flt (by rw [hv40, hv36]; rcases hp with q | q <;> rw [q] <;> decide : ¬ (v40 < (p1 + (3 : Int32))))).2.1 (by decide) (by decide) ?_
                      show Steps p.tables e below (T139.setTop (mkF m 228 #[.val (.ref r0), .val (.int p1), .val (.int p2), .val (.int v1), .val (.int (3 : Int32)), .val (.int v29), .val (.int v30), .val (.int v33), .val (.int v40), .val (.int v37)] [])) _
                      refine XS.iload X139.here hx rfl (hb hby d1_228) rfl ?_
                      exact kt
                    refine own_go hgo152 ?_
                    exact own_retI X139 hx Bd.returns Bd.notSynchronized (hb hby d1_230) (by decide) (by decide) (by rw [e139]; exact ⟨(by subst hv40 hv37 hv36 hv33 hv32 hv30 hv29 hv28 hv1; rw [own_r1, if_neg hc12_2, if_neg hc31_3, if_pos hc38_4, if_neg hc58_5, if_neg hc148_31, if_neg hc168_34, if_neg hc175_35, if_neg hc209_38, if_neg hc217_39]), N139, rfl⟩)
      · have hgo153 : ∀ t, Steps p.tables e below (s₁.setTop (mkF m 148 #[.val (.ref r0), .val (.int p1), .val (.int p2), .val (.int v1), .val (.int (2 : Int32)), .val (.int (128 : Int32)), .val (.int (191 : Int32)), .unset, .unset, .unset] [(.int (2 : Int32)), (.int (p2 - p1))])) t → Steps p.tables e below (s₁.setTop (mkF m 38 #[.val (.ref r0), .val (.int p1), .val (.int p2), .val (.int v1), .unset, .val (.int (128 : Int32)), .val (.int (191 : Int32)), .unset, .unset, .unset] [(.int (223 : Int32)), (.int v1)])) t := by
          intro t kt
          show Steps p.tables e below (s₁.setTop (mkF m 38 #[.val (.ref r0), .val (.int p1), .val (.int p2), .val (.int v1), .unset, .val (.int (128 : Int32)), .val (.int (191 : Int32)), .unset, .unset, .unset] [(.int (223 : Int32)), (.int v1)])) _
          refine XS.icmpNo X0.here hx rfl (hb hby d1_38) rfl (flt hc38_4).2.2.1 ?_
          show Steps p.tables e below (s₁.setTop (mkF m 41 #[.val (.ref r0), .val (.int p1), .val (.int p2), .val (.int v1), .unset, .val (.int (128 : Int32)), .val (.int (191 : Int32)), .unset, .unset, .unset] [])) _
          refine XS.iconst X0.here hx rfl (hb hby d1_41) ?_
          show Steps p.tables e below (s₁.setTop (mkF m 42 #[.val (.ref r0), .val (.int p1), .val (.int p2), .val (.int v1), .unset, .val (.int (128 : Int32)), .val (.int (191 : Int32)), .unset, .unset, .unset] [(.int (2 : Int32))])) _
          refine XS.istore X0.here hx rfl (hb hby d1_42) rfl (l' := #[.val (.ref r0), .val (.int p1), .val (.int p2), .val (.int v1), .val (.int (2 : Int32)), .val (.int (128 : Int32)), .val (.int (191 : Int32)), .unset, .unset, .unset]) rfl ?_
          show Steps p.tables e below (s₁.setTop (mkF m 44 #[.val (.ref r0), .val (.int p1), .val (.int p2), .val (.int v1), .val (.int (2 : Int32)), .val (.int (128 : Int32)), .val (.int (191 : Int32)), .unset, .unset, .unset] [])) _
          refine XS.goto X0.here hx rfl (pc0 := 44) (pc' := 143) rfl (hb hby d1_44) (by decide) (by decide) ?_
          show Steps p.tables e below (s₁.setTop (mkF m 143 #[.val (.ref r0), .val (.int p1), .val (.int p2), .val (.int v1), .val (.int (2 : Int32)), .val (.int (128 : Int32)), .val (.int (191 : Int32)), .unset, .unset, .unset] [])) _
          refine XS.iloadN X0.here hx rfl (hb hby d1_143) rfl ?_
          show Steps p.tables e below (s₁.setTop (mkF m 144 #[.val (.ref r0), .val (.int p1), .val (.int p2), .val (.int v1), .val (.int (2 : Int32)), .val (.int (128 : Int32)), .val (.int (191 : Int32)), .unset, .unset, .unset] [(.int p2)])) _
          refine XS.iloadN X0.here hx rfl (hb hby d1_144) rfl ?_
          show Steps p.tables e below (s₁.setTop (mkF m 145 #[.val (.ref r0), .val (.int p1), .val (.int p2), .val (.int v1), .val (.int (2 : Int32)), .val (.int (128 : Int32)), .val (.int (191 : Int32)), .unset, .unset, .unset] [(.int p1), (.int p2)])) _
          refine XS.isub X0.here hx rfl (hb hby d1_145) rfl ?_
          show Steps p.tables e below (s₁.setTop (mkF m 146 #[.val (.ref r0), .val (.int p1), .val (.int p2), .val (.int v1), .val (.int (2 : Int32)), .val (.int (128 : Int32)), .val (.int (191 : Int32)), .unset, .unset, .unset] [(.int (p2 - p1))])) _
          refine XS.iload X0.here hx rfl (hb hby d1_146) rfl ?_
          exact kt
        refine own_go hgo153 ?_
        by_cases hc148_41 : (p2 - p1) < (2 : Int32)
        · have hgo154 : ∀ t, Steps p.tables e below (s₁.setTop (mkF m 152 #[.val (.ref r0), .val (.int p1), .val (.int p2), .val (.int v1), .val (.int (2 : Int32)), .val (.int (128 : Int32)), .val (.int (191 : Int32)), .unset, .unset, .unset] [(.int (0 : Int32))])) t → Steps p.tables e below (s₁.setTop (mkF m 148 #[.val (.ref r0), .val (.int p1), .val (.int p2), .val (.int v1), .val (.int (2 : Int32)), .val (.int (128 : Int32)), .val (.int (191 : Int32)), .unset, .unset, .unset] [(.int (2 : Int32)), (.int (p2 - p1))])) t := by
            intro t kt
            show Steps p.tables e below (s₁.setTop (mkF m 148 #[.val (.ref r0), .val (.int p1), .val (.int p2), .val (.int v1), .val (.int (2 : Int32)), .val (.int (128 : Int32)), .val (.int (191 : Int32)), .unset, .unset, .unset] [(.int (2 : Int32)), (.int (p2 - p1))])) _
            refine XS.icmpNo X0.here hx rfl (hb hby d1_148) rfl (tlt hc148_41).2.1 ?_
            show Steps p.tables e below (s₁.setTop (mkF m 151 #[.val (.ref r0), .val (.int p1), .val (.int p2), .val (.int v1), .val (.int (2 : Int32)), .val (.int (128 : Int32)), .val (.int (191 : Int32)), .unset, .unset, .unset] [])) _
            refine XS.iconst X0.here hx rfl (hb hby d1_151) ?_
            exact kt
          refine own_go hgo154 ?_
          exact own_retI X0 hx Bd.returns Bd.notSynchronized (hb hby d1_152) (by decide) (by decide) (by rw [e0]; exact ⟨(by subst hv1; rw [own_r1, if_neg hc12_2, if_neg hc31_3, if_neg hc38_4, if_pos hc148_41]), N0, rfl⟩)
        · obtain ⟨v42, hv42⟩ : ∃ z : Int32, z = (p1 + (1 : Int32)) := ⟨_, rfl⟩
          have hin157_155 : ¬ v42 < 0 ∧ v42.toNatClampNeg < 5 := by rw [hv42]; rcases hp with q | q <;> rw [q] <;> decide
          obtain ⟨v43, hv43⟩ : ∃ z : Int32, z = ((f v42.toNatClampNeg) &&& (255 : Int32)) := ⟨_, rfl⟩
          have hgo156 : ∀ t, Steps p.tables e below (s₁.setTop (mkF m 168 #[.val (.ref r0), .val (.int p1), .val (.int p2), .val (.int v1), .val (.int (2 : Int32)), .val (.int (128 : Int32)), .val (.int (191 : Int32)), .val (.int v43), .unset, .unset] [(.int (128 : Int32)), (.int v43)])) t → Steps p.tables e below (s₁.setTop (mkF m 148 #[.val (.ref r0), .val (.int p1), .val (.int p2), .val (.int v1), .val (.int (2 : Int32)), .val (.int (128 : Int32)), .val (.int (191 : Int32)), .unset, .unset, .unset] [(.int (2 : Int32)), (.int (p2 - p1))])) t := by
            intro t kt
            show Steps p.tables e below (s₁.setTop (mkF m 148 #[.val (.ref r0), .val (.int p1), .val (.int p2), .val (.int v1), .val (.int (2 : Int32)), .val (.int (128 : Int32)), .val (.int (191 : Int32)), .unset, .unset, .unset] [(.int (2 : Int32)), (.int (p2 - p1))])) _
            refine XS.icmpYes X0.here hx rfl (pc0 := 148) (pc' := 153) rfl (hb hby d1_148) rfl (flt hc148_41).2.1 (by decide) (by decide) ?_
            show Steps p.tables e below (s₁.setTop (mkF m 153 #[.val (.ref r0), .val (.int p1), .val (.int p2), .val (.int v1), .val (.int (2 : Int32)), .val (.int (128 : Int32)), .val (.int (191 : Int32)), .unset, .unset, .unset] [])) _
            refine XS.aloadN X0.here hx rfl (hb hby d1_153) rfl rfl ?_
            show Steps p.tables e below (s₁.setTop (mkF m 154 #[.val (.ref r0), .val (.int p1), .val (.int p2), .val (.int v1), .val (.int (2 : Int32)), .val (.int (128 : Int32)), .val (.int (191 : Int32)), .unset, .unset, .unset] [(.ref r0)])) _
            refine XS.iloadN X0.here hx rfl (hb hby d1_154) rfl ?_
            show Steps p.tables e below (s₁.setTop (mkF m 155 #[.val (.ref r0), .val (.int p1), .val (.int p2), .val (.int v1), .val (.int (2 : Int32)), .val (.int (128 : Int32)), .val (.int (191 : Int32)), .unset, .unset, .unset] [(.int p1), (.ref r0)])) _
            refine XS.iconst X0.here hx rfl (hb hby d1_155) ?_
            show Steps p.tables e below (s₁.setTop (mkF m 156 #[.val (.ref r0), .val (.int p1), .val (.int p2), .val (.int v1), .val (.int (2 : Int32)), .val (.int (128 : Int32)), .val (.int (191 : Int32)), .unset, .unset, .unset] [(.int (1 : Int32)), (.int p1), (.ref r0)])) _
            refine XS.iadd X0.here hx rfl (hb hby d1_156) rfl ?_
            show Steps p.tables e below (s₁.setTop (mkF m 157 #[.val (.ref r0), .val (.int p1), .val (.int p2), .val (.int v1), .val (.int (2 : Int32)), .val (.int (128 : Int32)), .val (.int (191 : Int32)), .unset, .unset, .unset] [(.int (p1 + (1 : Int32))), (.ref r0)])) _
            rw [← hv42]
            refine own_ldB X0 hx hZ e0 A_r0 (j := v42) hin157_155 (g := (mkF m 157 #[.val (.ref r0), .val (.int p1), .val (.int p2), .val (.int v1), .val (.int (2 : Int32)), .val (.int (128 : Int32)), .val (.int (191 : Int32)), .unset, .unset, .unset] [(.int v42), (.ref r0)])) rfl rfl (hb hby d1_157) _ ?_
            show Steps p.tables e below (s₁.setTop (mkF m 158 #[.val (.ref r0), .val (.int p1), .val (.int p2), .val (.int v1), .val (.int (2 : Int32)), .val (.int (128 : Int32)), .val (.int (191 : Int32)), .unset, .unset, .unset] [(.int (f v42.toNatClampNeg))])) _
            refine XS.sipush X0.here hx rfl (hb hby d1_158) ?_
            show Steps p.tables e below (s₁.setTop (mkF m 161 #[.val (.ref r0), .val (.int p1), .val (.int p2), .val (.int v1), .val (.int (2 : Int32)), .val (.int (128 : Int32)), .val (.int (191 : Int32)), .unset, .unset, .unset] [(.int (255 : Int32)), (.int (f v42.toNatClampNeg))])) _
            refine XS.iand X0.here hx rfl (hb hby d1_161) rfl ?_
            show Steps p.tables e below (s₁.setTop (mkF m 162 #[.val (.ref r0), .val (.int p1), .val (.int p2), .val (.int v1), .val (.int (2 : Int32)), .val (.int (128 : Int32)), .val (.int (191 : Int32)), .unset, .unset, .unset] [(.int ((f v42.toNatClampNeg) &&& (255 : Int32)))])) _
            rw [← hv43]
            show Steps p.tables e below (s₁.setTop (mkF m 162 #[.val (.ref r0), .val (.int p1), .val (.int p2), .val (.int v1), .val (.int (2 : Int32)), .val (.int (128 : Int32)), .val (.int (191 : Int32)), .unset, .unset, .unset] [(.int v43)])) _
            refine XS.istore X0.here hx rfl (hb hby d1_162) rfl (l' := #[.val (.ref r0), .val (.int p1), .val (.int p2), .val (.int v1), .val (.int (2 : Int32)), .val (.int (128 : Int32)), .val (.int (191 : Int32)), .val (.int v43), .unset, .unset]) rfl ?_
            show Steps p.tables e below (s₁.setTop (mkF m 164 #[.val (.ref r0), .val (.int p1), .val (.int p2), .val (.int v1), .val (.int (2 : Int32)), .val (.int (128 : Int32)), .val (.int (191 : Int32)), .val (.int v43), .unset, .unset] [])) _
            refine XS.iload X0.here hx rfl (hb hby d1_164) rfl ?_
            show Steps p.tables e below (s₁.setTop (mkF m 166 #[.val (.ref r0), .val (.int p1), .val (.int p2), .val (.int v1), .val (.int (2 : Int32)), .val (.int (128 : Int32)), .val (.int (191 : Int32)), .val (.int v43), .unset, .unset] [(.int v43)])) _
            refine XS.iload X0.here hx rfl (hb hby d1_166) rfl ?_
            exact kt
          refine own_go hgo156 ?_
          by_cases hc168_44 : v43 < (128 : Int32)
          · have hgo157 : ∀ t, Steps p.tables e below (s₁.setTop (mkF m 179 #[.val (.ref r0), .val (.int p1), .val (.int p2), .val (.int v1), .val (.int (2 : Int32)), .val (.int (128 : Int32)), .val (.int (191 : Int32)), .val (.int v43), .unset, .unset] [(.int (0 : Int32))])) t → Steps p.tables e below (s₁.setTop (mkF m 168 #[.val (.ref r0), .val (.int p1), .val (.int p2), .val (.int v1), .val (.int (2 : Int32)), .val (.int (128 : Int32)), .val (.int (191 : Int32)), .val (.int v43), .unset, .unset] [(.int (128 : Int32)), (.int v43)])) t := by
              intro t kt
              show Steps p.tables e below (s₁.setTop (mkF m 168 #[.val (.ref r0), .val (.int p1), .val (.int p2), .val (.int v1), .val (.int (2 : Int32)), .val (.int (128 : Int32)), .val (.int (191 : Int32)), .val (.int v43), .unset, .unset] [(.int (128 : Int32)), (.int v43)])) _
              refine XS.icmpYes X0.here hx rfl (pc0 := 168) (pc' := 178) rfl (hb hby d1_168) rfl (tlt hc168_44).1 (by decide) (by decide) ?_
              show Steps p.tables e below (s₁.setTop (mkF m 178 #[.val (.ref r0), .val (.int p1), .val (.int p2), .val (.int v1), .val (.int (2 : Int32)), .val (.int (128 : Int32)), .val (.int (191 : Int32)), .val (.int v43), .unset, .unset] [])) _
              refine XS.iconst X0.here hx rfl (hb hby d1_178) ?_
              exact kt
            refine own_go hgo157 ?_
            exact own_retI X0 hx Bd.returns Bd.notSynchronized (hb hby d1_179) (by decide) (by decide) (by rw [e0]; exact ⟨(by subst hv43 hv42 hv1; rw [own_r1, if_neg hc12_2, if_neg hc31_3, if_neg hc38_4, if_neg hc148_41, if_pos hc168_44]), N0, rfl⟩)
          · have hgo158 : ∀ t, Steps p.tables e below (s₁.setTop (mkF m 175 #[.val (.ref r0), .val (.int p1), .val (.int p2), .val (.int v1), .val (.int (2 : Int32)), .val (.int (128 : Int32)), .val (.int (191 : Int32)), .val (.int v43), .unset, .unset] [(.int (191 : Int32)), (.int v43)])) t → Steps p.tables e below (s₁.setTop (mkF m 168 #[.val (.ref r0), .val (.int p1), .val (.int p2), .val (.int v1), .val (.int (2 : Int32)), .val (.int (128 : Int32)), .val (.int (191 : Int32)), .val (.int v43), .unset, .unset] [(.int (128 : Int32)), (.int v43)])) t := by
              intro t kt
              show Steps p.tables e below (s₁.setTop (mkF m 168 #[.val (.ref r0), .val (.int p1), .val (.int p2), .val (.int v1), .val (.int (2 : Int32)), .val (.int (128 : Int32)), .val (.int (191 : Int32)), .val (.int v43), .unset, .unset] [(.int (128 : Int32)), (.int v43)])) _
              refine XS.icmpNo X0.here hx rfl (hb hby d1_168) rfl (flt hc168_44).1 ?_
              show Steps p.tables e below (s₁.setTop (mkF m 171 #[.val (.ref r0), .val (.int p1), .val (.int p2), .val (.int v1), .val (.int (2 : Int32)), .val (.int (128 : Int32)), .val (.int (191 : Int32)), .val (.int v43), .unset, .unset] [])) _
              refine XS.iload X0.here hx rfl (hb hby d1_171) rfl ?_
              show Steps p.tables e below (s₁.setTop (mkF m 173 #[.val (.ref r0), .val (.int p1), .val (.int p2), .val (.int v1), .val (.int (2 : Int32)), .val (.int (128 : Int32)), .val (.int (191 : Int32)), .val (.int v43), .unset, .unset] [(.int v43)])) _
              refine XS.iload X0.here hx rfl (hb hby d1_173) rfl ?_
              exact kt
            refine own_go hgo158 ?_
            by_cases hc175_45 : (191 : Int32) < v43
            · have hgo159 : ∀ t, Steps p.tables e below (s₁.setTop (mkF m 179 #[.val (.ref r0), .val (.int p1), .val (.int p2), .val (.int v1), .val (.int (2 : Int32)), .val (.int (128 : Int32)), .val (.int (191 : Int32)), .val (.int v43), .unset, .unset] [(.int (0 : Int32))])) t → Steps p.tables e below (s₁.setTop (mkF m 175 #[.val (.ref r0), .val (.int p1), .val (.int p2), .val (.int v1), .val (.int (2 : Int32)), .val (.int (128 : Int32)), .val (.int (191 : Int32)), .val (.int v43), .unset, .unset] [(.int (191 : Int32)), (.int v43)])) t := by
                intro t kt
                show Steps p.tables e below (s₁.setTop (mkF m 175 #[.val (.ref r0), .val (.int p1), .val (.int p2), .val (.int v1), .val (.int (2 : Int32)), .val (.int (128 : Int32)), .val (.int (191 : Int32)), .val (.int v43), .unset, .unset] [(.int (191 : Int32)), (.int v43)])) _
                refine XS.icmpNo X0.here hx rfl (hb hby d1_175) rfl (tlt hc175_45).2.2.2 ?_
                show Steps p.tables e below (s₁.setTop (mkF m 178 #[.val (.ref r0), .val (.int p1), .val (.int p2), .val (.int v1), .val (.int (2 : Int32)), .val (.int (128 : Int32)), .val (.int (191 : Int32)), .val (.int v43), .unset, .unset] [])) _
                refine XS.iconst X0.here hx rfl (hb hby d1_178) ?_
                exact kt
              refine own_go hgo159 ?_
              exact own_retI X0 hx Bd.returns Bd.notSynchronized (hb hby d1_179) (by decide) (by decide) (by rw [e0]; exact ⟨(by subst hv43 hv42 hv1; rw [own_r1, if_neg hc12_2, if_neg hc31_3, if_neg hc38_4, if_neg hc148_41, if_neg hc168_44, if_pos hc175_45]), N0, rfl⟩)
            · obtain ⟨v46, hv46⟩ : ∃ z : Int32, z = (p1 + (2 : Int32)) := ⟨_, rfl⟩
              have hgo160 : ∀ t, Steps p.tables e below (s₁.setTop (mkF m 230 #[.val (.ref r0), .val (.int p1), .val (.int p2), .val (.int v1), .val (.int (2 : Int32)), .val (.int (128 : Int32)), .val (.int (191 : Int32)), .val (.int v43), .val (.int v46), .unset] [(.int (2 : Int32))])) t → Steps p.tables e below (s₁.setTop (mkF m 175 #[.val (.ref r0), .val (.int p1), .val (.int p2), .val (.int v1), .val (.int (2 : Int32)), .val (.int (128 : Int32)), .val (.int (191 : Int32)), .val (.int v43), .unset, .unset] [(.int (191 : Int32)), (.int v43)])) t := by
                intro t kt
                show Steps p.tables e below (s₁.setTop (mkF m 175 #[.val (.ref r0), .val (.int p1), .val (.int p2), .val (.int v1), .val (.int (2 : Int32)), .val (.int (128 : Int32)), .val (.int (191 : Int32)), .val (.int v43), .unset, .unset] [(.int (191 : Int32)), (.int v43)])) _
                refine XS.icmpYes X0.here hx rfl (pc0 := 175) (pc' := 180) rfl (hb hby d1_175) rfl (flt hc175_45).2.2.2 (by decide) (by decide) ?_
                show Steps p.tables e below (s₁.setTop (mkF m 180 #[.val (.ref r0), .val (.int p1), .val (.int p2), .val (.int v1), .val (.int (2 : Int32)), .val (.int (128 : Int32)), .val (.int (191 : Int32)), .val (.int v43), .unset, .unset] [])) _
                refine XS.iloadN X0.here hx rfl (hb hby d1_180) rfl ?_
                show Steps p.tables e below (s₁.setTop (mkF m 181 #[.val (.ref r0), .val (.int p1), .val (.int p2), .val (.int v1), .val (.int (2 : Int32)), .val (.int (128 : Int32)), .val (.int (191 : Int32)), .val (.int v43), .unset, .unset] [(.int p1)])) _
                refine XS.iconst X0.here hx rfl (hb hby d1_181) ?_
                show Steps p.tables e below (s₁.setTop (mkF m 182 #[.val (.ref r0), .val (.int p1), .val (.int p2), .val (.int v1), .val (.int (2 : Int32)), .val (.int (128 : Int32)), .val (.int (191 : Int32)), .val (.int v43), .unset, .unset] [(.int (2 : Int32)), (.int p1)])) _
                refine XS.iadd X0.here hx rfl (hb hby d1_182) rfl ?_
                show Steps p.tables e below (s₁.setTop (mkF m 183 #[.val (.ref r0), .val (.int p1), .val (.int p2), .val (.int v1), .val (.int (2 : Int32)), .val (.int (128 : Int32)), .val (.int (191 : Int32)), .val (.int v43), .unset, .unset] [(.int (p1 + (2 : Int32)))])) _
                rw [← hv46]
                show Steps p.tables e below (s₁.setTop (mkF m 183 #[.val (.ref r0), .val (.int p1), .val (.int p2), .val (.int v1), .val (.int (2 : Int32)), .val (.int (128 : Int32)), .val (.int (191 : Int32)), .val (.int v43), .unset, .unset] [(.int v46)])) _
                refine XS.istore X0.here hx rfl (hb hby d1_183) rfl (l' := #[.val (.ref r0), .val (.int p1), .val (.int p2), .val (.int v1), .val (.int (2 : Int32)), .val (.int (128 : Int32)), .val (.int (191 : Int32)), .val (.int v43), .val (.int v46), .unset]) rfl ?_
                show Steps p.tables e below (s₁.setTop (mkF m 185 #[.val (.ref r0), .val (.int p1), .val (.int p2), .val (.int v1), .val (.int (2 : Int32)), .val (.int (128 : Int32)), .val (.int (191 : Int32)), .val (.int v43), .val (.int v46), .unset] [])) _
                refine XS.iload X0.here hx rfl (hb hby d1_185) rfl ?_
                show Steps p.tables e below (s₁.setTop (mkF m 187 #[.val (.ref r0), .val (.int p1), .val (.int p2), .val (.int v1), .val (.int (2 : Int32)), .val (.int (128 : Int32)), .val (.int (191 : Int32)), .val (.int v43), .val (.int v46), .unset] [(.int v46)])) _
                refine XS.iloadN X0.here hx rfl (hb hby d1_187) rfl ?_
                show Steps p.tables e below (s₁.setTop (mkF m 188 #[.val (.ref r0), .val (.int p1), .val (.int p2), .val (.int v1), .val (.int (2 : Int32)), .val (.int (128 : Int32)), .val (.int (191 : Int32)), .val (.int v43), .val (.int v46), .unset] [(.int p1), (.int v46)])) _
                refine XS.iload X0.here hx rfl (hb hby d1_188) rfl ?_
                show Steps p.tables e below (s₁.setTop (mkF m 190 #[.val (.ref r0), .val (.int p1), .val (.int p2), .val (.int v1), .val (.int (2 : Int32)), .val (.int (128 : Int32)), .val (.int (191 : Int32)), .val (.int v43), .val (.int v46), .unset] [(.int (2 : Int32)), (.int p1), (.int v46)])) _
                refine XS.iadd X0.here hx rfl (hb hby d1_190) rfl ?_
                show Steps p.tables e below (s₁.setTop (mkF m 191 #[.val (.ref r0), .val (.int p1), .val (.int p2), .val (.int v1), .val (.int (2 : Int32)), .val (.int (128 : Int32)), .val (.int (191 : Int32)), .val (.int v43), .val (.int v46), .unset] [(.int (p1 + (2 : Int32))), (.int v46)])) _
                refine XS.icmpYes X0.here hx rfl (pc0 := 191) (pc' := 228) rfl (hb hby d1_191) rfl (flt (by rw [hv46]; rcases hp with q | q <;> rw [q] <;> decide : ¬ (v46 < (p1 + (2 : Int32))))).2.1 (by decide) (by decide) ?_
                show Steps p.tables e below (s₁.setTop (mkF m 228 #[.val (.ref r0), .val (.int p1), .val (.int p2), .val (.int v1), .val (.int (2 : Int32)), .val (.int (128 : Int32)), .val (.int (191 : Int32)), .val (.int v43), .val (.int v46), .unset] [])) _
                refine XS.iload X0.here hx rfl (hb hby d1_228) rfl ?_
                exact kt
              refine own_go hgo160 ?_
              exact own_retI X0 hx Bd.returns Bd.notSynchronized (hb hby d1_230) (by decide) (by decide) (by rw [e0]; exact ⟨(by subst hv46 hv43 hv42 hv1; rw [own_r1, if_neg hc12_2, if_neg hc31_3, if_neg hc38_4, if_neg hc148_41, if_neg hc168_44, if_neg hc175_45]), N0, rfl⟩)
theorem d2_0 : decode method_3_code 0 = .ok (.aload_n 0, 1) := by decide +kernel
theorem d2_1 : decode method_3_code 1 = .ok (.iload_n 1, 1) := by decide +kernel
theorem d2_2 : decode method_3_code 2 = .ok (.baload, 1) := by decide +kernel
theorem d2_3 : decode method_3_code 3 = .ok (.sipush 255, 3) := by decide +kernel
theorem d2_6 : decode method_3_code 6 = .ok (.iand, 1) := by decide +kernel
theorem d2_7 : decode method_3_code 7 = .ok (.istore_n 3, 1) := by decide +kernel
theorem d2_8 : decode method_3_code 8 = .ok (.iload_n 3, 1) := by decide +kernel
theorem d2_9 : decode method_3_code 9 = .ok (.sipush 128, 3) := by decide +kernel
theorem d2_12 : decode method_3_code 12 = .ok (.iand, 1) := by decide +kernel
theorem d2_13 : decode method_3_code 13 = .ok (.ifCond .ne 5, 3) := by decide +kernel
theorem d2_16 : decode method_3_code 16 = .ok (.iconst 1, 1) := by decide +kernel
theorem d2_17 : decode method_3_code 17 = .ok (.ireturn, 1) := by decide +kernel
theorem d2_18 : decode method_3_code 18 = .ok (.iload_n 3, 1) := by decide +kernel
theorem d2_19 : decode method_3_code 19 = .ok (.sipush 224, 3) := by decide +kernel
theorem d2_22 : decode method_3_code 22 = .ok (.iand, 1) := by decide +kernel
theorem d2_23 : decode method_3_code 23 = .ok (.sipush 192, 3) := by decide +kernel
theorem d2_26 : decode method_3_code 26 = .ok (.if_icmp .ne 9, 3) := by decide +kernel
theorem d2_29 : decode method_3_code 29 = .ok (.iconst 2, 1) := by decide +kernel
theorem d2_30 : decode method_3_code 30 = .ok (.istore 4, 2) := by decide +kernel
theorem d2_32 : decode method_3_code 32 = .ok (.goto 39, 3) := by decide +kernel
theorem d2_35 : decode method_3_code 35 = .ok (.iload_n 3, 1) := by decide +kernel
theorem d2_36 : decode method_3_code 36 = .ok (.sipush 240, 3) := by decide +kernel
theorem d2_39 : decode method_3_code 39 = .ok (.iand, 1) := by decide +kernel
theorem d2_40 : decode method_3_code 40 = .ok (.sipush 224, 3) := by decide +kernel
theorem d2_43 : decode method_3_code 43 = .ok (.if_icmp .ne 9, 3) := by decide +kernel
theorem d2_46 : decode method_3_code 46 = .ok (.iconst 3, 1) := by decide +kernel
theorem d2_47 : decode method_3_code 47 = .ok (.istore 4, 2) := by decide +kernel
theorem d2_49 : decode method_3_code 49 = .ok (.goto 22, 3) := by decide +kernel
theorem d2_52 : decode method_3_code 52 = .ok (.iload_n 3, 1) := by decide +kernel
theorem d2_53 : decode method_3_code 53 = .ok (.sipush 248, 3) := by decide +kernel
theorem d2_56 : decode method_3_code 56 = .ok (.iand, 1) := by decide +kernel
theorem d2_57 : decode method_3_code 57 = .ok (.sipush 240, 3) := by decide +kernel
theorem d2_60 : decode method_3_code 60 = .ok (.if_icmp .ne 9, 3) := by decide +kernel
theorem d2_63 : decode method_3_code 63 = .ok (.iconst 4, 1) := by decide +kernel
theorem d2_64 : decode method_3_code 64 = .ok (.istore 4, 2) := by decide +kernel
theorem d2_66 : decode method_3_code 66 = .ok (.goto 5, 3) := by decide +kernel
theorem d2_69 : decode method_3_code 69 = .ok (.iconst 0, 1) := by decide +kernel
theorem d2_70 : decode method_3_code 70 = .ok (.ireturn, 1) := by decide +kernel
theorem d2_71 : decode method_3_code 71 = .ok (.iload_n 2, 1) := by decide +kernel
theorem d2_72 : decode method_3_code 72 = .ok (.iload_n 1, 1) := by decide +kernel
theorem d2_73 : decode method_3_code 73 = .ok (.isub, 1) := by decide +kernel
theorem d2_74 : decode method_3_code 74 = .ok (.iload 4, 2) := by decide +kernel
theorem d2_76 : decode method_3_code 76 = .ok (.if_icmp .ge 5, 3) := by decide +kernel
theorem d2_79 : decode method_3_code 79 = .ok (.iconst 0, 1) := by decide +kernel
theorem d2_80 : decode method_3_code 80 = .ok (.ireturn, 1) := by decide +kernel
theorem d2_81 : decode method_3_code 81 = .ok (.aload_n 0, 1) := by decide +kernel
theorem d2_82 : decode method_3_code 82 = .ok (.iload_n 1, 1) := by decide +kernel
theorem d2_83 : decode method_3_code 83 = .ok (.iconst 1, 1) := by decide +kernel
theorem d2_84 : decode method_3_code 84 = .ok (.iadd, 1) := by decide +kernel
theorem d2_85 : decode method_3_code 85 = .ok (.baload, 1) := by decide +kernel
theorem d2_86 : decode method_3_code 86 = .ok (.sipush 255, 3) := by decide +kernel
theorem d2_89 : decode method_3_code 89 = .ok (.iand, 1) := by decide +kernel
theorem d2_90 : decode method_3_code 90 = .ok (.istore 5, 2) := by decide +kernel
theorem d2_92 : decode method_3_code 92 = .ok (.iload 4, 2) := by decide +kernel
theorem d2_94 : decode method_3_code 94 = .ok (.iconst 3, 1) := by decide +kernel
theorem d2_95 : decode method_3_code 95 = .ok (.if_icmp .lt 15, 3) := by decide +kernel
theorem d2_98 : decode method_3_code 98 = .ok (.aload_n 0, 1) := by decide +kernel
theorem d2_99 : decode method_3_code 99 = .ok (.iload_n 1, 1) := by decide +kernel
theorem d2_100 : decode method_3_code 100 = .ok (.iconst 2, 1) := by decide +kernel
theorem d2_101 : decode method_3_code 101 = .ok (.iadd, 1) := by decide +kernel
theorem d2_102 : decode method_3_code 102 = .ok (.baload, 1) := by decide +kernel
theorem d2_103 : decode method_3_code 103 = .ok (.sipush 255, 3) := by decide +kernel
theorem d2_106 : decode method_3_code 106 = .ok (.iand, 1) := by decide +kernel
theorem d2_107 : decode method_3_code 107 = .ok (.goto 6, 3) := by decide +kernel
theorem d2_110 : decode method_3_code 110 = .ok (.sipush 128, 3) := by decide +kernel
theorem d2_113 : decode method_3_code 113 = .ok (.istore 6, 2) := by decide +kernel
theorem d2_115 : decode method_3_code 115 = .ok (.iload 4, 2) := by decide +kernel
theorem d2_117 : decode method_3_code 117 = .ok (.iconst 4, 1) := by decide +kernel
theorem d2_118 : decode method_3_code 118 = .ok (.if_icmp .lt 15, 3) := by decide +kernel
theorem d2_121 : decode method_3_code 121 = .ok (.aload_n 0, 1) := by decide +kernel
theorem d2_122 : decode method_3_code 122 = .ok (.iload_n 1, 1) := by decide +kernel
theorem d2_123 : decode method_3_code 123 = .ok (.iconst 3, 1) := by decide +kernel
theorem d2_124 : decode method_3_code 124 = .ok (.iadd, 1) := by decide +kernel
theorem d2_125 : decode method_3_code 125 = .ok (.baload, 1) := by decide +kernel
theorem d2_126 : decode method_3_code 126 = .ok (.sipush 255, 3) := by decide +kernel
theorem d2_129 : decode method_3_code 129 = .ok (.iand, 1) := by decide +kernel
theorem d2_130 : decode method_3_code 130 = .ok (.goto 6, 3) := by decide +kernel
theorem d2_133 : decode method_3_code 133 = .ok (.sipush 128, 3) := by decide +kernel
theorem d2_136 : decode method_3_code 136 = .ok (.istore 7, 2) := by decide +kernel
theorem d2_138 : decode method_3_code 138 = .ok (.iload 5, 2) := by decide +kernel
theorem d2_140 : decode method_3_code 140 = .ok (.sipush 192, 3) := by decide +kernel
theorem d2_143 : decode method_3_code 143 = .ok (.iand, 1) := by decide +kernel
theorem d2_144 : decode method_3_code 144 = .ok (.sipush 128, 3) := by decide +kernel
theorem d2_147 : decode method_3_code 147 = .ok (.if_icmp .ne 27, 3) := by decide +kernel
theorem d2_150 : decode method_3_code 150 = .ok (.iload 6, 2) := by decide +kernel
theorem d2_152 : decode method_3_code 152 = .ok (.sipush 192, 3) := by decide +kernel
theorem d2_155 : decode method_3_code 155 = .ok (.iand, 1) := by decide +kernel
theorem d2_156 : decode method_3_code 156 = .ok (.sipush 128, 3) := by decide +kernel
theorem d2_159 : decode method_3_code 159 = .ok (.if_icmp .ne 15, 3) := by decide +kernel
theorem d2_162 : decode method_3_code 162 = .ok (.iload 7, 2) := by decide +kernel
theorem d2_164 : decode method_3_code 164 = .ok (.sipush 192, 3) := by decide +kernel
theorem d2_167 : decode method_3_code 167 = .ok (.iand, 1) := by decide +kernel
theorem d2_168 : decode method_3_code 168 = .ok (.sipush 128, 3) := by decide +kernel
theorem d2_171 : decode method_3_code 171 = .ok (.if_icmp .eq 5, 3) := by decide +kernel
theorem d2_174 : decode method_3_code 174 = .ok (.iconst 0, 1) := by decide +kernel
theorem d2_175 : decode method_3_code 175 = .ok (.ireturn, 1) := by decide +kernel
theorem d2_176 : decode method_3_code 176 = .ok (.iload 4, 2) := by decide +kernel
theorem d2_178 : decode method_3_code 178 = .ok (.iconst 2, 1) := by decide +kernel
theorem d2_179 : decode method_3_code 179 = .ok (.if_icmp .ne 26, 3) := by decide +kernel
theorem d2_182 : decode method_3_code 182 = .ok (.iload_n 3, 1) := by decide +kernel
theorem d2_183 : decode method_3_code 183 = .ok (.bipush 31, 2) := by decide +kernel
theorem d2_185 : decode method_3_code 185 = .ok (.iand, 1) := by decide +kernel
theorem d2_186 : decode method_3_code 186 = .ok (.bipush 6, 2) := by decide +kernel
theorem d2_188 : decode method_3_code 188 = .ok (.ishl, 1) := by decide +kernel
theorem d2_189 : decode method_3_code 189 = .ok (.iload 5, 2) := by decide +kernel
theorem d2_191 : decode method_3_code 191 = .ok (.bipush 63, 2) := by decide +kernel
theorem d2_193 : decode method_3_code 193 = .ok (.iand, 1) := by decide +kernel
theorem d2_194 : decode method_3_code 194 = .ok (.ior, 1) := by decide +kernel
theorem d2_195 : decode method_3_code 195 = .ok (.istore 8, 2) := by decide +kernel
theorem d2_197 : decode method_3_code 197 = .ok (.sipush 128, 3) := by decide +kernel
theorem d2_200 : decode method_3_code 200 = .ok (.istore 9, 2) := by decide +kernel
theorem d2_202 : decode method_3_code 202 = .ok (.goto 78, 3) := by decide +kernel
theorem d2_205 : decode method_3_code 205 = .ok (.iload 4, 2) := by decide +kernel
theorem d2_207 : decode method_3_code 207 = .ok (.iconst 3, 1) := by decide +kernel
theorem d2_208 : decode method_3_code 208 = .ok (.if_icmp .ne 35, 3) := by decide +kernel
theorem d2_211 : decode method_3_code 211 = .ok (.iload_n 3, 1) := by decide +kernel
theorem d2_212 : decode method_3_code 212 = .ok (.bipush 15, 2) := by decide +kernel
theorem d2_214 : decode method_3_code 214 = .ok (.iand, 1) := by decide +kernel
theorem d2_215 : decode method_3_code 215 = .ok (.bipush 12, 2) := by decide +kernel
theorem d2_217 : decode method_3_code 217 = .ok (.ishl, 1) := by decide +kernel
theorem d2_218 : decode method_3_code 218 = .ok (.iload 5, 2) := by decide +kernel
theorem d2_220 : decode method_3_code 220 = .ok (.bipush 63, 2) := by decide +kernel
theorem d2_222 : decode method_3_code 222 = .ok (.iand, 1) := by decide +kernel
theorem d2_223 : decode method_3_code 223 = .ok (.bipush 6, 2) := by decide +kernel
theorem d2_225 : decode method_3_code 225 = .ok (.ishl, 1) := by decide +kernel
theorem d2_226 : decode method_3_code 226 = .ok (.ior, 1) := by decide +kernel
theorem d2_227 : decode method_3_code 227 = .ok (.iload 6, 2) := by decide +kernel
theorem d2_229 : decode method_3_code 229 = .ok (.bipush 63, 2) := by decide +kernel
theorem d2_231 : decode method_3_code 231 = .ok (.iand, 1) := by decide +kernel
theorem d2_232 : decode method_3_code 232 = .ok (.ior, 1) := by decide +kernel
theorem d2_233 : decode method_3_code 233 = .ok (.istore 8, 2) := by decide +kernel
theorem d2_235 : decode method_3_code 235 = .ok (.sipush 2048, 3) := by decide +kernel
theorem d2_238 : decode method_3_code 238 = .ok (.istore 9, 2) := by decide +kernel
theorem d2_240 : decode method_3_code 240 = .ok (.goto 40, 3) := by decide +kernel
theorem d2_243 : decode method_3_code 243 = .ok (.iload_n 3, 1) := by decide +kernel
theorem d2_244 : decode method_3_code 244 = .ok (.bipush 7, 2) := by decide +kernel
theorem d2_246 : decode method_3_code 246 = .ok (.iand, 1) := by decide +kernel
theorem d2_247 : decode method_3_code 247 = .ok (.bipush 18, 2) := by decide +kernel
theorem d2_249 : decode method_3_code 249 = .ok (.ishl, 1) := by decide +kernel
theorem d2_250 : decode method_3_code 250 = .ok (.iload 5, 2) := by decide +kernel
theorem d2_252 : decode method_3_code 252 = .ok (.bipush 63, 2) := by decide +kernel
theorem d2_254 : decode method_3_code 254 = .ok (.iand, 1) := by decide +kernel
theorem d2_255 : decode method_3_code 255 = .ok (.bipush 12, 2) := by decide +kernel
theorem d2_257 : decode method_3_code 257 = .ok (.ishl, 1) := by decide +kernel
theorem d2_258 : decode method_3_code 258 = .ok (.ior, 1) := by decide +kernel
theorem d2_259 : decode method_3_code 259 = .ok (.iload 6, 2) := by decide +kernel
theorem d2_261 : decode method_3_code 261 = .ok (.bipush 63, 2) := by decide +kernel
theorem d2_263 : decode method_3_code 263 = .ok (.iand, 1) := by decide +kernel
theorem d2_264 : decode method_3_code 264 = .ok (.bipush 6, 2) := by decide +kernel
theorem d2_266 : decode method_3_code 266 = .ok (.ishl, 1) := by decide +kernel
theorem d2_267 : decode method_3_code 267 = .ok (.ior, 1) := by decide +kernel
theorem d2_268 : decode method_3_code 268 = .ok (.iload 7, 2) := by decide +kernel
theorem d2_270 : decode method_3_code 270 = .ok (.bipush 63, 2) := by decide +kernel
theorem d2_272 : decode method_3_code 272 = .ok (.iand, 1) := by decide +kernel
theorem d2_273 : decode method_3_code 273 = .ok (.ior, 1) := by decide +kernel
theorem d2_274 : decode method_3_code 274 = .ok (.istore 8, 2) := by decide +kernel
theorem d2_276 : decode method_3_code 276 = .ok (.ldc 18, 2) := by decide +kernel
theorem d2_278 : decode method_3_code 278 = .ok (.istore 9, 2) := by decide +kernel
theorem d2_280 : decode method_3_code 280 = .ok (.iload 8, 2) := by decide +kernel
theorem d2_282 : decode method_3_code 282 = .ok (.iload 9, 2) := by decide +kernel
theorem d2_284 : decode method_3_code 284 = .ok (.if_icmp .ge 5, 3) := by decide +kernel
theorem d2_287 : decode method_3_code 287 = .ok (.iconst 0, 1) := by decide +kernel
theorem d2_288 : decode method_3_code 288 = .ok (.ireturn, 1) := by decide +kernel
theorem d2_289 : decode method_3_code 289 = .ok (.iload 8, 2) := by decide +kernel
theorem d2_291 : decode method_3_code 291 = .ok (.ldc 19, 2) := by decide +kernel
theorem d2_293 : decode method_3_code 293 = .ok (.if_icmp .lt 12, 3) := by decide +kernel
theorem d2_296 : decode method_3_code 296 = .ok (.iload 8, 2) := by decide +kernel
theorem d2_298 : decode method_3_code 298 = .ok (.ldc 20, 2) := by decide +kernel
theorem d2_300 : decode method_3_code 300 = .ok (.if_icmp .gt 5, 3) := by decide +kernel
theorem d2_303 : decode method_3_code 303 = .ok (.iconst 0, 1) := by decide +kernel
theorem d2_304 : decode method_3_code 304 = .ok (.ireturn, 1) := by decide +kernel
theorem d2_305 : decode method_3_code 305 = .ok (.iload 8, 2) := by decide +kernel
theorem d2_307 : decode method_3_code 307 = .ok (.ldc 21, 2) := by decide +kernel
theorem d2_309 : decode method_3_code 309 = .ok (.if_icmp .le 5, 3) := by decide +kernel
theorem d2_312 : decode method_3_code 312 = .ok (.iconst 0, 1) := by decide +kernel
theorem d2_313 : decode method_3_code 313 = .ok (.ireturn, 1) := by decide +kernel
theorem d2_314 : decode method_3_code 314 = .ok (.iload 4, 2) := by decide +kernel
theorem d2_316 : decode method_3_code 316 = .ok (.ireturn, 1) := by decide +kernel
theorem ef_2 (m : MethodId) (r0 : Addr) (p1 : Int32) (p2 : Int32) : entryFrame m #[(.ref r0), (.int p1), (.int p2)] 10 = mkF m 0 #[.val (.ref r0), .val (.int p1), .val (.int p2), .unset, .unset, .unset, .unset, .unset, .unset, .unset] [] := by (first | (simp [entryFrame, mkF, argsToLocals, Value.category]; done) | rfl)
def own_r2 (p1 : Int32) (p2 : Int32) (f : Nat → Int32) : Int32 := (if (((f p1.toNatClampNeg) &&& (255 : Int32)) &&& (128 : Int32)) = (0 : Int32) then (1 : Int32) else (if (((f p1.toNatClampNeg) &&& (255 : Int32)) &&& (224 : Int32)) = (192 : Int32) then (if (p2 - p1) < (2 : Int32) then (0 : Int32) else (if (((f (p1 + (1 : Int32)).toNatClampNeg) &&& (255 : Int32)) &&& (192 : Int32)) = (128 : Int32) then (if (((((f p1.toNatClampNeg) &&& (255 : Int32)) &&& (31 : Int32)) <<< ((6 : Int32) &&& 31)) ||| (((f (p1 + (1 : Int32)).toNatClampNeg) &&& (255 : Int32)) &&& (63 : Int32))) < (128 : Int32) then (0 : Int32) else (if (((((f p1.toNatClampNeg) &&& (255 : Int32)) &&& (31 : Int32)) <<< ((6 : Int32) &&& 31)) ||| (((f (p1 + (1 : Int32)).toNatClampNeg) &&& (255 : Int32)) &&& (63 : Int32))) < (55296 : Int32) then (2 : Int32) else (if (57343 : Int32) < (((((f p1.toNatClampNeg) &&& (255 : Int32)) &&& (31 : Int32)) <<< ((6 : Int32) &&& 31)) ||| (((f (p1 + (1 : Int32)).toNatClampNeg) &&& (255 : Int32)) &&& (63 : Int32))) then (if (1114111 : Int32) < (((((f p1.toNatClampNeg) &&& (255 : Int32)) &&& (31 : Int32)) <<< ((6 : Int32) &&& 31)) ||| (((f (p1 + (1 : Int32)).toNatClampNeg) &&& (255 : Int32)) &&& (63 : Int32))) then (0 : Int32) else (2 : Int32)) else (0 : Int32)))) else (0 : Int32))) else (if (((f p1.toNatClampNeg) &&& (255 : Int32)) &&& (240 : Int32)) = (224 : Int32) then (if (p2 - p1) < (3 : Int32) then (0 : Int32) else (if (((f (p1 + (1 : Int32)).toNatClampNeg) &&& (255 : Int32)) &&& (192 : Int32)) = (128 : Int32) then (if (((f (p1 + (2 : Int32)).toNatClampNeg) &&& (255 : Int32)) &&& (192 : Int32)) = (128 : Int32) then (if ((((((f p1.toNatClampNeg) &&& (255 : Int32)) &&& (15 : Int32)) <<< ((12 : Int32) &&& 31)) ||| ((((f (p1 + (1 : Int32)).toNatClampNeg) &&& (255 : Int32)) &&& (63 : Int32)) <<< ((6 : Int32) &&& 31))) ||| (((f (p1 + (2 : Int32)).toNatClampNeg) &&& (255 : Int32)) &&& (63 : Int32))) < (2048 : Int32) then (0 : Int32) else (if ((((((f p1.toNatClampNeg) &&& (255 : Int32)) &&& (15 : Int32)) <<< ((12 : Int32) &&& 31)) ||| ((((f (p1 + (1 : Int32)).toNatClampNeg) &&& (255 : Int32)) &&& (63 : Int32)) <<< ((6 : Int32) &&& 31))) ||| (((f (p1 + (2 : Int32)).toNatClampNeg) &&& (255 : Int32)) &&& (63 : Int32))) < (55296 : Int32) then (3 : Int32) else (if (57343 : Int32) < ((((((f p1.toNatClampNeg) &&& (255 : Int32)) &&& (15 : Int32)) <<< ((12 : Int32) &&& 31)) ||| ((((f (p1 + (1 : Int32)).toNatClampNeg) &&& (255 : Int32)) &&& (63 : Int32)) <<< ((6 : Int32) &&& 31))) ||| (((f (p1 + (2 : Int32)).toNatClampNeg) &&& (255 : Int32)) &&& (63 : Int32))) then (if (1114111 : Int32) < ((((((f p1.toNatClampNeg) &&& (255 : Int32)) &&& (15 : Int32)) <<< ((12 : Int32) &&& 31)) ||| ((((f (p1 + (1 : Int32)).toNatClampNeg) &&& (255 : Int32)) &&& (63 : Int32)) <<< ((6 : Int32) &&& 31))) ||| (((f (p1 + (2 : Int32)).toNatClampNeg) &&& (255 : Int32)) &&& (63 : Int32))) then (0 : Int32) else (3 : Int32)) else (0 : Int32)))) else (0 : Int32)) else (0 : Int32))) else (if (((f p1.toNatClampNeg) &&& (255 : Int32)) &&& (248 : Int32)) = (240 : Int32) then (if (p2 - p1) < (4 : Int32) then (0 : Int32) else (if (((f (p1 + (1 : Int32)).toNatClampNeg) &&& (255 : Int32)) &&& (192 : Int32)) = (128 : Int32) then (if (((f (p1 + (2 : Int32)).toNatClampNeg) &&& (255 : Int32)) &&& (192 : Int32)) = (128 : Int32) then (if (((f (p1 + (3 : Int32)).toNatClampNeg) &&& (255 : Int32)) &&& (192 : Int32)) = (128 : Int32) then (if (((((((f p1.toNatClampNeg) &&& (255 : Int32)) &&& (7 : Int32)) <<< ((18 : Int32) &&& 31)) ||| ((((f (p1 + (1 : Int32)).toNatClampNeg) &&& (255 : Int32)) &&& (63 : Int32)) <<< ((12 : Int32) &&& 31))) ||| ((((f (p1 + (2 : Int32)).toNatClampNeg) &&& (255 : Int32)) &&& (63 : Int32)) <<< ((6 : Int32) &&& 31))) ||| (((f (p1 + (3 : Int32)).toNatClampNeg) &&& (255 : Int32)) &&& (63 : Int32))) < (65536 : Int32) then (0 : Int32) else (if (1114111 : Int32) < (((((((f p1.toNatClampNeg) &&& (255 : Int32)) &&& (7 : Int32)) <<< ((18 : Int32) &&& 31)) ||| ((((f (p1 + (1 : Int32)).toNatClampNeg) &&& (255 : Int32)) &&& (63 : Int32)) <<< ((12 : Int32) &&& 31))) ||| ((((f (p1 + (2 : Int32)).toNatClampNeg) &&& (255 : Int32)) &&& (63 : Int32)) <<< ((6 : Int32) &&& 31))) ||| (((f (p1 + (3 : Int32)).toNatClampNeg) &&& (255 : Int32)) &&& (63 : Int32))) then (0 : Int32) else (4 : Int32))) else (0 : Int32)) else (0 : Int32)) else (0 : Int32))) else (0 : Int32)))))
theorem pn1 : plainName "org/tagwright/core/Utf8SequenceLengthPinLaw" = true := by first | (simp [plainName, overriddenIn]; done) | decide +kernel
def Q2 (Z : State) (r0 : Addr) (p1 : Int32) (p2 : Int32) (f : Nat → Int32) (h0 : Heap) (n0 : Nat) (v : Option Value) (h : Heap) (L : List Loc) : Prop := v = some (.int (own_r2 p1 p2 f)) ∧ Fr n0 L ∧ h = h0
set_option maxRecDepth 65536 in
set_option maxHeartbeats 40000000 in
theorem rm2 (l : Launch) (Z : State) (a0 : Array Value) (hw : ∀ d ∈ tables_1, d.before a0 Z = true) (ws : List Jvm.Cond) (r0 : Addr) (p1 : Int32) (p2 : Int32) (f : Nat → Int32) (h0 : Heap) (n0 : Nat) (Z0 : n0 ≤ h0.size) (A_r0 : own_AI Z h0 r0 .byte 5 f) (hp : p1 = 0 ∨ p1 = 1) :
    MetFree l (⟨"org/tagwright/core/Utf8SequenceLengthPinLaw", "expected", "([BII)I"⟩ : MethodName) (head1 (Jvm.Cond.code (⟨"org/tagwright/core/Utf8SequenceLengthPinLaw", "expected", "([BII)I"⟩ : MethodName) method_3_code 10 (some .int) :: ws) ({ frames := 0, cells := 0, slots := 0, locals := 0 } : Room)) (fun a U => a = #[(.ref r0), (.int p1), (.int p2)] ∧ Z.Warmed39 U.vm ∧ U.heap = h0) (fun _ _ _ _ _ => True) (fun _ U o U' => ∃ v L, o = .returned v ∧ Q2 Z r0 p1 p2 f h0 n0 v U'.heap L ∧ FrameEnd U o U' L ({ frames := 0, cells := 0, slots := 0, locals := 0 } : Room).cells ({ frames := 0, cells := 0, slots := 0, locals := 0 } : Room).slots) := by
  refine MetFree.of_bodySF (plainFor_of_name pn1) hisR ?_
  intro p e s m args below meth c s₁ Bd hml0 hP hK
  obtain ⟨rfl, hZ, hh⟩ := hP
  have hx := Bd.exec
  have hby := Bd.bytes
  have hml : c.maxLocals = 10 := hml0
  have hown : s.vm.findClass "org/tagwright/core/Utf8SequenceLengthPinLaw" = some m.cls := findClass_of_methodNamed Bd.named
  have hnm := (name_of_methodNamed Bd.named Bd.method).1
  have X0 : Stand p l e ({ frames := 0, cells := 0, slots := 0, locals := 0 } : Room) s m #[(.ref r0), (.int p1), (.int p2)] below meth c s₁ [] 0 0 := Stand.of_body Bd
  have e0 : s₁.heap = h0 := by rw [← hh, Bd.state]; rfl
  have N0 := Fr.nil n0
  have K0 : Keep h0 h0 [] := Keep.refl h0 _
  show own_Go p e below s (Q2 Z r0 p1 p2 f h0 n0) ({ frames := 0, cells := 0, slots := 0, locals := 0 } : Room).cells ({ frames := 0, cells := 0, slots := 0, locals := 0 } : Room).slots (s₁.setTop (entryFrame m #[(.ref r0), (.int p1), (.int p2)] 10))
  refine own_go (fun t k => castTop (ef_2 m r0 p1 p2) k) ?_
  have hin2_101 : ¬ p1 < 0 ∧ p1.toNatClampNeg < 5 := by rcases hp with q | q <;> rw [q] <;> decide
  obtain ⟨v1, hv1⟩ : ∃ z : Int32, z = ((f p1.toNatClampNeg) &&& (255 : Int32)) := ⟨_, rfl⟩
  have hgo102 : ∀ t, Steps p.tables e below (s₁.setTop (mkF m 13 #[.val (.ref r0), .val (.int p1), .val (.int p2), .val (.int v1), .unset, .unset, .unset, .unset, .unset, .unset] [(.int (v1 &&& (128 : Int32)))])) t → Steps p.tables e below (s₁.setTop (mkF m 0 #[.val (.ref r0), .val (.int p1), .val (.int p2), .unset, .unset, .unset, .unset, .unset, .unset, .unset] [])) t := by
    intro t kt
    show Steps p.tables e below (s₁.setTop (mkF m 0 #[.val (.ref r0), .val (.int p1), .val (.int p2), .unset, .unset, .unset, .unset, .unset, .unset, .unset] [])) _
    refine XS.aloadN X0.here hx rfl (hb hby d2_0) rfl rfl ?_
    show Steps p.tables e below (s₁.setTop (mkF m 1 #[.val (.ref r0), .val (.int p1), .val (.int p2), .unset, .unset, .unset, .unset, .unset, .unset, .unset] [(.ref r0)])) _
    refine XS.iloadN X0.here hx rfl (hb hby d2_1) rfl ?_
    show Steps p.tables e below (s₁.setTop (mkF m 2 #[.val (.ref r0), .val (.int p1), .val (.int p2), .unset, .unset, .unset, .unset, .unset, .unset, .unset] [(.int p1), (.ref r0)])) _
    refine own_ldB X0 hx hZ e0 A_r0 (j := p1) hin2_101 (g := (mkF m 2 #[.val (.ref r0), .val (.int p1), .val (.int p2), .unset, .unset, .unset, .unset, .unset, .unset, .unset] [(.int p1), (.ref r0)])) rfl rfl (hb hby d2_2) _ ?_
    show Steps p.tables e below (s₁.setTop (mkF m 3 #[.val (.ref r0), .val (.int p1), .val (.int p2), .unset, .unset, .unset, .unset, .unset, .unset, .unset] [(.int (f p1.toNatClampNeg))])) _
    refine XS.sipush X0.here hx rfl (hb hby d2_3) ?_
    show Steps p.tables e below (s₁.setTop (mkF m 6 #[.val (.ref r0), .val (.int p1), .val (.int p2), .unset, .unset, .unset, .unset, .unset, .unset, .unset] [(.int (255 : Int32)), (.int (f p1.toNatClampNeg))])) _
    refine XS.iand X0.here hx rfl (hb hby d2_6) rfl ?_
    show Steps p.tables e below (s₁.setTop (mkF m 7 #[.val (.ref r0), .val (.int p1), .val (.int p2), .unset, .unset, .unset, .unset, .unset, .unset, .unset] [(.int ((f p1.toNatClampNeg) &&& (255 : Int32)))])) _
    rw [← hv1]
    show Steps p.tables e below (s₁.setTop (mkF m 7 #[.val (.ref r0), .val (.int p1), .val (.int p2), .unset, .unset, .unset, .unset, .unset, .unset, .unset] [(.int v1)])) _
    refine XS.istoreN X0.here hx rfl (hb hby d2_7) rfl (l' := #[.val (.ref r0), .val (.int p1), .val (.int p2), .val (.int v1), .unset, .unset, .unset, .unset, .unset, .unset]) rfl ?_
    show Steps p.tables e below (s₁.setTop (mkF m 8 #[.val (.ref r0), .val (.int p1), .val (.int p2), .val (.int v1), .unset, .unset, .unset, .unset, .unset, .unset] [])) _
    refine XS.iloadN X0.here hx rfl (hb hby d2_8) rfl ?_
    show Steps p.tables e below (s₁.setTop (mkF m 9 #[.val (.ref r0), .val (.int p1), .val (.int p2), .val (.int v1), .unset, .unset, .unset, .unset, .unset, .unset] [(.int v1)])) _
    refine XS.sipush X0.here hx rfl (hb hby d2_9) ?_
    show Steps p.tables e below (s₁.setTop (mkF m 12 #[.val (.ref r0), .val (.int p1), .val (.int p2), .val (.int v1), .unset, .unset, .unset, .unset, .unset, .unset] [(.int (128 : Int32)), (.int v1)])) _
    refine XS.iand X0.here hx rfl (hb hby d2_12) rfl ?_
    exact kt
  refine own_go hgo102 ?_
  by_cases hc13_2 : (v1 &&& (128 : Int32)) = (0 : Int32)
  · have hgo103 : ∀ t, Steps p.tables e below (s₁.setTop (mkF m 17 #[.val (.ref r0), .val (.int p1), .val (.int p2), .val (.int v1), .unset, .unset, .unset, .unset, .unset, .unset] [(.int (1 : Int32))])) t → Steps p.tables e below (s₁.setTop (mkF m 13 #[.val (.ref r0), .val (.int p1), .val (.int p2), .val (.int v1), .unset, .unset, .unset, .unset, .unset, .unset] [(.int (v1 &&& (128 : Int32)))])) t := by
      intro t kt
      show Steps p.tables e below (s₁.setTop (mkF m 13 #[.val (.ref r0), .val (.int p1), .val (.int p2), .val (.int v1), .unset, .unset, .unset, .unset, .unset, .unset] [(.int (v1 &&& (128 : Int32)))])) _
      refine XS.ifNo X0.here hx rfl (hb hby d2_13) rfl ((if0 _ _).trans (teq hc13_2).2) ?_
      show Steps p.tables e below (s₁.setTop (mkF m 16 #[.val (.ref r0), .val (.int p1), .val (.int p2), .val (.int v1), .unset, .unset, .unset, .unset, .unset, .unset] [])) _
      refine XS.iconst X0.here hx rfl (hb hby d2_16) ?_
      exact kt
    refine own_go hgo103 ?_
    exact own_retI X0 hx Bd.returns Bd.notSynchronized (hb hby d2_17) (by decide) (by decide) (by rw [e0]; exact ⟨(by subst hv1; rw [own_r2, if_pos hc13_2]), N0, rfl⟩)
  · have hgo104 : ∀ t, Steps p.tables e below (s₁.setTop (mkF m 26 #[.val (.ref r0), .val (.int p1), .val (.int p2), .val (.int v1), .unset, .unset, .unset, .unset, .unset, .unset] [(.int (192 : Int32)), (.int (v1 &&& (224 : Int32)))])) t → Steps p.tables e below (s₁.setTop (mkF m 13 #[.val (.ref r0), .val (.int p1), .val (.int p2), .val (.int v1), .unset, .unset, .unset, .unset, .unset, .unset] [(.int (v1 &&& (128 : Int32)))])) t := by
      intro t kt
      show Steps p.tables e below (s₁.setTop (mkF m 13 #[.val (.ref r0), .val (.int p1), .val (.int p2), .val (.int v1), .unset, .unset, .unset, .unset, .unset, .unset] [(.int (v1 &&& (128 : Int32)))])) _
      refine XS.ifYes X0.here hx rfl (pc0 := 13) (pc' := 18) rfl (hb hby d2_13) rfl ((if0 _ _).trans (feq hc13_2).2) (by decide) (by decide) ?_
      show Steps p.tables e below (s₁.setTop (mkF m 18 #[.val (.ref r0), .val (.int p1), .val (.int p2), .val (.int v1), .unset, .unset, .unset, .unset, .unset, .unset] [])) _
      refine XS.iloadN X0.here hx rfl (hb hby d2_18) rfl ?_
      show Steps p.tables e below (s₁.setTop (mkF m 19 #[.val (.ref r0), .val (.int p1), .val (.int p2), .val (.int v1), .unset, .unset, .unset, .unset, .unset, .unset] [(.int v1)])) _
      refine XS.sipush X0.here hx rfl (hb hby d2_19) ?_
      show Steps p.tables e below (s₁.setTop (mkF m 22 #[.val (.ref r0), .val (.int p1), .val (.int p2), .val (.int v1), .unset, .unset, .unset, .unset, .unset, .unset] [(.int (224 : Int32)), (.int v1)])) _
      refine XS.iand X0.here hx rfl (hb hby d2_22) rfl ?_
      show Steps p.tables e below (s₁.setTop (mkF m 23 #[.val (.ref r0), .val (.int p1), .val (.int p2), .val (.int v1), .unset, .unset, .unset, .unset, .unset, .unset] [(.int (v1 &&& (224 : Int32)))])) _
      refine XS.sipush X0.here hx rfl (hb hby d2_23) ?_
      exact kt
    refine own_go hgo104 ?_
    by_cases hc26_3 : (v1 &&& (224 : Int32)) = (192 : Int32)
    · have hgo105 : ∀ t, Steps p.tables e below (s₁.setTop (mkF m 76 #[.val (.ref r0), .val (.int p1), .val (.int p2), .val (.int v1), .val (.int (2 : Int32)), .unset, .unset, .unset, .unset, .unset] [(.int (2 : Int32)), (.int (p2 - p1))])) t → Steps p.tables e below (s₁.setTop (mkF m 26 #[.val (.ref r0), .val (.int p1), .val (.int p2), .val (.int v1), .unset, .unset, .unset, .unset, .unset, .unset] [(.int (192 : Int32)), (.int (v1 &&& (224 : Int32)))])) t := by
        intro t kt
        show Steps p.tables e below (s₁.setTop (mkF m 26 #[.val (.ref r0), .val (.int p1), .val (.int p2), .val (.int v1), .unset, .unset, .unset, .unset, .unset, .unset] [(.int (192 : Int32)), (.int (v1 &&& (224 : Int32)))])) _
        refine XS.icmpNo X0.here hx rfl (hb hby d2_26) rfl (teq hc26_3).2 ?_
        show Steps p.tables e below (s₁.setTop (mkF m 29 #[.val (.ref r0), .val (.int p1), .val (.int p2), .val (.int v1), .unset, .unset, .unset, .unset, .unset, .unset] [])) _
        refine XS.iconst X0.here hx rfl (hb hby d2_29) ?_
        show Steps p.tables e below (s₁.setTop (mkF m 30 #[.val (.ref r0), .val (.int p1), .val (.int p2), .val (.int v1), .unset, .unset, .unset, .unset, .unset, .unset] [(.int (2 : Int32))])) _
        refine XS.istore X0.here hx rfl (hb hby d2_30) rfl (l' := #[.val (.ref r0), .val (.int p1), .val (.int p2), .val (.int v1), .val (.int (2 : Int32)), .unset, .unset, .unset, .unset, .unset]) rfl ?_
        show Steps p.tables e below (s₁.setTop (mkF m 32 #[.val (.ref r0), .val (.int p1), .val (.int p2), .val (.int v1), .val (.int (2 : Int32)), .unset, .unset, .unset, .unset, .unset] [])) _
        refine XS.goto X0.here hx rfl (pc0 := 32) (pc' := 71) rfl (hb hby d2_32) (by decide) (by decide) ?_
        show Steps p.tables e below (s₁.setTop (mkF m 71 #[.val (.ref r0), .val (.int p1), .val (.int p2), .val (.int v1), .val (.int (2 : Int32)), .unset, .unset, .unset, .unset, .unset] [])) _
        refine XS.iloadN X0.here hx rfl (hb hby d2_71) rfl ?_
        show Steps p.tables e below (s₁.setTop (mkF m 72 #[.val (.ref r0), .val (.int p1), .val (.int p2), .val (.int v1), .val (.int (2 : Int32)), .unset, .unset, .unset, .unset, .unset] [(.int p2)])) _
        refine XS.iloadN X0.here hx rfl (hb hby d2_72) rfl ?_
        show Steps p.tables e below (s₁.setTop (mkF m 73 #[.val (.ref r0), .val (.int p1), .val (.int p2), .val (.int v1), .val (.int (2 : Int32)), .unset, .unset, .unset, .unset, .unset] [(.int p1), (.int p2)])) _
        refine XS.isub X0.here hx rfl (hb hby d2_73) rfl ?_
        show Steps p.tables e below (s₁.setTop (mkF m 74 #[.val (.ref r0), .val (.int p1), .val (.int p2), .val (.int v1), .val (.int (2 : Int32)), .unset, .unset, .unset, .unset, .unset] [(.int (p2 - p1))])) _
        refine XS.iload X0.here hx rfl (hb hby d2_74) rfl ?_
        exact kt
      refine own_go hgo105 ?_
      by_cases hc76_4 : (p2 - p1) < (2 : Int32)
      · have hgo106 : ∀ t, Steps p.tables e below (s₁.setTop (mkF m 80 #[.val (.ref r0), .val (.int p1), .val (.int p2), .val (.int v1), .val (.int (2 : Int32)), .unset, .unset, .unset, .unset, .unset] [(.int (0 : Int32))])) t → Steps p.tables e below (s₁.setTop (mkF m 76 #[.val (.ref r0), .val (.int p1), .val (.int p2), .val (.int v1), .val (.int (2 : Int32)), .unset, .unset, .unset, .unset, .unset] [(.int (2 : Int32)), (.int (p2 - p1))])) t := by
          intro t kt
          show Steps p.tables e below (s₁.setTop (mkF m 76 #[.val (.ref r0), .val (.int p1), .val (.int p2), .val (.int v1), .val (.int (2 : Int32)), .unset, .unset, .unset, .unset, .unset] [(.int (2 : Int32)), (.int (p2 - p1))])) _
          refine XS.icmpNo X0.here hx rfl (hb hby d2_76) rfl (tlt hc76_4).2.1 ?_
          show Steps p.tables e below (s₁.setTop (mkF m 79 #[.val (.ref r0), .val (.int p1), .val (.int p2), .val (.int v1), .val (.int (2 : Int32)), .unset, .unset, .unset, .unset, .unset] [])) _
          refine XS.iconst X0.here hx rfl (hb hby d2_79) ?_
          exact kt
        refine own_go hgo106 ?_
        exact own_retI X0 hx Bd.returns Bd.notSynchronized (hb hby d2_80) (by decide) (by decide) (by rw [e0]; exact ⟨(by subst hv1; rw [own_r2, if_neg hc13_2, if_pos hc26_3, if_pos hc76_4]), N0, rfl⟩)
      · obtain ⟨v5, hv5⟩ : ∃ z : Int32, z = (p1 + (1 : Int32)) := ⟨_, rfl⟩
        have hin85_107 : ¬ v5 < 0 ∧ v5.toNatClampNeg < 5 := by rw [hv5]; rcases hp with q | q <;> rw [q] <;> decide
        obtain ⟨v6, hv6⟩ : ∃ z : Int32, z = ((f v5.toNatClampNeg) &&& (255 : Int32)) := ⟨_, rfl⟩
        have hgo108 : ∀ t, Steps p.tables e below (s₁.setTop (mkF m 147 #[.val (.ref r0), .val (.int p1), .val (.int p2), .val (.int v1), .val (.int (2 : Int32)), .val (.int v6), .val (.int (128 : Int32)), .val (.int (128 : Int32)), .unset, .unset] [(.int (128 : Int32)), (.int (v6 &&& (192 : Int32)))])) t → Steps p.tables e below (s₁.setTop (mkF m 76 #[.val (.ref r0), .val (.int p1), .val (.int p2), .val (.int v1), .val (.int (2 : Int32)), .unset, .unset, .unset, .unset, .unset] [(.int (2 : Int32)), (.int (p2 - p1))])) t := by
          intro t kt
          show Steps p.tables e below (s₁.setTop (mkF m 76 #[.val (.ref r0), .val (.int p1), .val (.int p2), .val (.int v1), .val (.int (2 : Int32)), .unset, .unset, .unset, .unset, .unset] [(.int (2 : Int32)), (.int (p2 - p1))])) _
          refine XS.icmpYes X0.here hx rfl (pc0 := 76) (pc' := 81) rfl (hb hby d2_76) rfl (flt hc76_4).2.1 (by decide) (by decide) ?_
          show Steps p.tables e below (s₁.setTop (mkF m 81 #[.val (.ref r0), .val (.int p1), .val (.int p2), .val (.int v1), .val (.int (2 : Int32)), .unset, .unset, .unset, .unset, .unset] [])) _
          refine XS.aloadN X0.here hx rfl (hb hby d2_81) rfl rfl ?_
          show Steps p.tables e below (s₁.setTop (mkF m 82 #[.val (.ref r0), .val (.int p1), .val (.int p2), .val (.int v1), .val (.int (2 : Int32)), .unset, .unset, .unset, .unset, .unset] [(.ref r0)])) _
          refine XS.iloadN X0.here hx rfl (hb hby d2_82) rfl ?_
          show Steps p.tables e below (s₁.setTop (mkF m 83 #[.val (.ref r0), .val (.int p1), .val (.int p2), .val (.int v1), .val (.int (2 : Int32)), .unset, .unset, .unset, .unset, .unset] [(.int p1), (.ref r0)])) _
          refine XS.iconst X0.here hx rfl (hb hby d2_83) ?_
          show Steps p.tables e below (s₁.setTop (mkF m 84 #[.val (.ref r0), .val (.int p1), .val (.int p2), .val (.int v1), .val (.int (2 : Int32)), .unset, .unset, .unset, .unset, .unset] [(.int (1 : Int32)), (.int p1), (.ref r0)])) _
          refine XS.iadd X0.here hx rfl (hb hby d2_84) rfl ?_
          show Steps p.tables e below (s₁.setTop (mkF m 85 #[.val (.ref r0), .val (.int p1), .val (.int p2), .val (.int v1), .val (.int (2 : Int32)), .unset, .unset, .unset, .unset, .unset] [(.int (p1 + (1 : Int32))), (.ref r0)])) _
          rw [← hv5]
          refine own_ldB X0 hx hZ e0 A_r0 (j := v5) hin85_107 (g := (mkF m 85 #[.val (.ref r0), .val (.int p1), .val (.int p2), .val (.int v1), .val (.int (2 : Int32)), .unset, .unset, .unset, .unset, .unset] [(.int v5), (.ref r0)])) rfl rfl (hb hby d2_85) _ ?_
          show Steps p.tables e below (s₁.setTop (mkF m 86 #[.val (.ref r0), .val (.int p1), .val (.int p2), .val (.int v1), .val (.int (2 : Int32)), .unset, .unset, .unset, .unset, .unset] [(.int (f v5.toNatClampNeg))])) _
          refine XS.sipush X0.here hx rfl (hb hby d2_86) ?_
          show Steps p.tables e below (s₁.setTop (mkF m 89 #[.val (.ref r0), .val (.int p1), .val (.int p2), .val (.int v1), .val (.int (2 : Int32)), .unset, .unset, .unset, .unset, .unset] [(.int (255 : Int32)), (.int (f v5.toNatClampNeg))])) _
          refine XS.iand X0.here hx rfl (hb hby d2_89) rfl ?_
          show Steps p.tables e below (s₁.setTop (mkF m 90 #[.val (.ref r0), .val (.int p1), .val (.int p2), .val (.int v1), .val (.int (2 : Int32)), .unset, .unset, .unset, .unset, .unset] [(.int ((f v5.toNatClampNeg) &&& (255 : Int32)))])) _
          rw [← hv6]
          show Steps p.tables e below (s₁.setTop (mkF m 90 #[.val (.ref r0), .val (.int p1), .val (.int p2), .val (.int v1), .val (.int (2 : Int32)), .unset, .unset, .unset, .unset, .unset] [(.int v6)])) _
          refine XS.istore X0.here hx rfl (hb hby d2_90) rfl (l' := #[.val (.ref r0), .val (.int p1), .val (.int p2), .val (.int v1), .val (.int (2 : Int32)), .val (.int v6), .unset, .unset, .unset, .unset]) rfl ?_
          show Steps p.tables e below (s₁.setTop (mkF m 92 #[.val (.ref r0), .val (.int p1), .val (.int p2), .val (.int v1), .val (.int (2 : Int32)), .val (.int v6), .unset, .unset, .unset, .unset] [])) _
          refine XS.iload X0.here hx rfl (hb hby d2_92) rfl ?_
          show Steps p.tables e below (s₁.setTop (mkF m 94 #[.val (.ref r0), .val (.int p1), .val (.int p2), .val (.int v1), .val (.int (2 : Int32)), .val (.int v6), .unset, .unset, .unset, .unset] [(.int (2 : Int32))])) _
          refine XS.iconst X0.here hx rfl (hb hby d2_94) ?_
          show Steps p.tables e below (s₁.setTop (mkF m 95 #[.val (.ref r0), .val (.int p1), .val (.int p2), .val (.int v1), .val (.int (2 : Int32)), .val (.int v6), .unset, .unset, .unset, .unset] [(.int (3 : Int32)), (.int (2 : Int32))])) _
          refine XS.icmpYes X0.here hx rfl (pc0 := 95) (pc' := 110) rfl (hb hby d2_95) rfl (tlt (by decide : (2 : Int32) < (3 : Int32))).1 (by decide) (by decide) ?_
          show Steps p.tables e below (s₁.setTop (mkF m 110 #[.val (.ref r0), .val (.int p1), .val (.int p2), .val (.int v1), .val (.int (2 : Int32)), .val (.int v6), .unset, .unset, .unset, .unset] [])) _
          refine XS.sipush X0.here hx rfl (hb hby d2_110) ?_
          show Steps p.tables e below (s₁.setTop (mkF m 113 #[.val (.ref r0), .val (.int p1), .val (.int p2), .val (.int v1), .val (.int (2 : Int32)), .val (.int v6), .unset, .unset, .unset, .unset] [(.int (128 : Int32))])) _
          refine XS.istore X0.here hx rfl (hb hby d2_113) rfl (l' := #[.val (.ref r0), .val (.int p1), .val (.int p2), .val (.int v1), .val (.int (2 : Int32)), .val (.int v6), .val (.int (128 : Int32)), .unset, .unset, .unset]) rfl ?_
          show Steps p.tables e below (s₁.setTop (mkF m 115 #[.val (.ref r0), .val (.int p1), .val (.int p2), .val (.int v1), .val (.int (2 : Int32)), .val (.int v6), .val (.int (128 : Int32)), .unset, .unset, .unset] [])) _
          refine XS.iload X0.here hx rfl (hb hby d2_115) rfl ?_
          show Steps p.tables e below (s₁.setTop (mkF m 117 #[.val (.ref r0), .val (.int p1), .val (.int p2), .val (.int v1), .val (.int (2 : Int32)), .val (.int v6), .val (.int (128 : Int32)), .unset, .unset, .unset] [(.int (2 : Int32))])) _
          refine XS.iconst X0.here hx rfl (hb hby d2_117) ?_
          show Steps p.tables e below (s₁.setTop (mkF m 118 #[.val (.ref r0), .val (.int p1), .val (.int p2), .val (.int v1), .val (.int (2 : Int32)), .val (.int v6), .val (.int (128 : Int32)), .unset, .unset, .unset] [(.int (4 : Int32)), (.int (2 : Int32))])) _
          refine XS.icmpYes X0.here hx rfl (pc0 := 118) (pc' := 133) rfl (hb hby d2_118) rfl (tlt (by decide : (2 : Int32) < (4 : Int32))).1 (by decide) (by decide) ?_
          show Steps p.tables e below (s₁.setTop (mkF m 133 #[.val (.ref r0), .val (.int p1), .val (.int p2), .val (.int v1), .val (.int (2 : Int32)), .val (.int v6), .val (.int (128 : Int32)), .unset, .unset, .unset] [])) _
          refine XS.sipush X0.here hx rfl (hb hby d2_133) ?_
          show Steps p.tables e below (s₁.setTop (mkF m 136 #[.val (.ref r0), .val (.int p1), .val (.int p2), .val (.int v1), .val (.int (2 : Int32)), .val (.int v6), .val (.int (128 : Int32)), .unset, .unset, .unset] [(.int (128 : Int32))])) _
          refine XS.istore X0.here hx rfl (hb hby d2_136) rfl (l' := #[.val (.ref r0), .val (.int p1), .val (.int p2), .val (.int v1), .val (.int (2 : Int32)), .val (.int v6), .val (.int (128 : Int32)), .val (.int (128 : Int32)), .unset, .unset]) rfl ?_
          show Steps p.tables e below (s₁.setTop (mkF m 138 #[.val (.ref r0), .val (.int p1), .val (.int p2), .val (.int v1), .val (.int (2 : Int32)), .val (.int v6), .val (.int (128 : Int32)), .val (.int (128 : Int32)), .unset, .unset] [])) _
          refine XS.iload X0.here hx rfl (hb hby d2_138) rfl ?_
          show Steps p.tables e below (s₁.setTop (mkF m 140 #[.val (.ref r0), .val (.int p1), .val (.int p2), .val (.int v1), .val (.int (2 : Int32)), .val (.int v6), .val (.int (128 : Int32)), .val (.int (128 : Int32)), .unset, .unset] [(.int v6)])) _
          refine XS.sipush X0.here hx rfl (hb hby d2_140) ?_
          show Steps p.tables e below (s₁.setTop (mkF m 143 #[.val (.ref r0), .val (.int p1), .val (.int p2), .val (.int v1), .val (.int (2 : Int32)), .val (.int v6), .val (.int (128 : Int32)), .val (.int (128 : Int32)), .unset, .unset] [(.int (192 : Int32)), (.int v6)])) _
          refine XS.iand X0.here hx rfl (hb hby d2_143) rfl ?_
          show Steps p.tables e below (s₁.setTop (mkF m 144 #[.val (.ref r0), .val (.int p1), .val (.int p2), .val (.int v1), .val (.int (2 : Int32)), .val (.int v6), .val (.int (128 : Int32)), .val (.int (128 : Int32)), .unset, .unset] [(.int (v6 &&& (192 : Int32)))])) _
          refine XS.sipush X0.here hx rfl (hb hby d2_144) ?_
          exact kt
        refine own_go hgo108 ?_
        by_cases hc147_7 : (v6 &&& (192 : Int32)) = (128 : Int32)
        · obtain ⟨v8, hv8⟩ : ∃ z : Int32, z = (((v1 &&& (31 : Int32)) <<< ((6 : Int32) &&& 31)) ||| (v6 &&& (63 : Int32))) := ⟨_, rfl⟩
          have hgo109 : ∀ t, Steps p.tables e below (s₁.setTop (mkF m 284 #[.val (.ref r0), .val (.int p1), .val (.int p2), .val (.int v1), .val (.int (2 : Int32)), .val (.int v6), .val (.int (128 : Int32)), .val (.int (128 : Int32)), .val (.int v8), .val (.int (128 : Int32))] [(.int (128 : Int32)), (.int v8)])) t → Steps p.tables e below (s₁.setTop (mkF m 147 #[.val (.ref r0), .val (.int p1), .val (.int p2), .val (.int v1), .val (.int (2 : Int32)), .val (.int v6), .val (.int (128 : Int32)), .val (.int (128 : Int32)), .unset, .unset] [(.int (128 : Int32)), (.int (v6 &&& (192 : Int32)))])) t := by
            intro t kt
            show Steps p.tables e below (s₁.setTop (mkF m 147 #[.val (.ref r0), .val (.int p1), .val (.int p2), .val (.int v1), .val (.int (2 : Int32)), .val (.int v6), .val (.int (128 : Int32)), .val (.int (128 : Int32)), .unset, .unset] [(.int (128 : Int32)), (.int (v6 &&& (192 : Int32)))])) _
            refine XS.icmpNo X0.here hx rfl (hb hby d2_147) rfl (teq hc147_7).2 ?_
            show Steps p.tables e below (s₁.setTop (mkF m 150 #[.val (.ref r0), .val (.int p1), .val (.int p2), .val (.int v1), .val (.int (2 : Int32)), .val (.int v6), .val (.int (128 : Int32)), .val (.int (128 : Int32)), .unset, .unset] [])) _
            refine XS.iload X0.here hx rfl (hb hby d2_150) rfl ?_
            show Steps p.tables e below (s₁.setTop (mkF m 152 #[.val (.ref r0), .val (.int p1), .val (.int p2), .val (.int v1), .val (.int (2 : Int32)), .val (.int v6), .val (.int (128 : Int32)), .val (.int (128 : Int32)), .unset, .unset] [(.int (128 : Int32))])) _
            refine XS.sipush X0.here hx rfl (hb hby d2_152) ?_
            show Steps p.tables e below (s₁.setTop (mkF m 155 #[.val (.ref r0), .val (.int p1), .val (.int p2), .val (.int v1), .val (.int (2 : Int32)), .val (.int v6), .val (.int (128 : Int32)), .val (.int (128 : Int32)), .unset, .unset] [(.int (192 : Int32)), (.int (128 : Int32))])) _
            refine XS.iand X0.here hx rfl (hb hby d2_155) rfl ?_
            show Steps p.tables e below (s₁.setTop (mkF m 156 #[.val (.ref r0), .val (.int p1), .val (.int p2), .val (.int v1), .val (.int (2 : Int32)), .val (.int v6), .val (.int (128 : Int32)), .val (.int (128 : Int32)), .unset, .unset] [(.int (128 : Int32))])) _
            refine XS.sipush X0.here hx rfl (hb hby d2_156) ?_
            show Steps p.tables e below (s₁.setTop (mkF m 159 #[.val (.ref r0), .val (.int p1), .val (.int p2), .val (.int v1), .val (.int (2 : Int32)), .val (.int v6), .val (.int (128 : Int32)), .val (.int (128 : Int32)), .unset, .unset] [(.int (128 : Int32)), (.int (128 : Int32))])) _
            refine XS.icmpNo X0.here hx rfl (hb hby d2_159) rfl (teq (by decide : (128 : Int32) = (128 : Int32))).2 ?_
            show Steps p.tables e below (s₁.setTop (mkF m 162 #[.val (.ref r0), .val (.int p1), .val (.int p2), .val (.int v1), .val (.int (2 : Int32)), .val (.int v6), .val (.int (128 : Int32)), .val (.int (128 : Int32)), .unset, .unset] [])) _
            refine XS.iload X0.here hx rfl (hb hby d2_162) rfl ?_
            show Steps p.tables e below (s₁.setTop (mkF m 164 #[.val (.ref r0), .val (.int p1), .val (.int p2), .val (.int v1), .val (.int (2 : Int32)), .val (.int v6), .val (.int (128 : Int32)), .val (.int (128 : Int32)), .unset, .unset] [(.int (128 : Int32))])) _
            refine XS.sipush X0.here hx rfl (hb hby d2_164) ?_
            show Steps p.tables e below (s₁.setTop (mkF m 167 #[.val (.ref r0), .val (.int p1), .val (.int p2), .val (.int v1), .val (.int (2 : Int32)), .val (.int v6), .val (.int (128 : Int32)), .val (.int (128 : Int32)), .unset, .unset] [(.int (192 : Int32)), (.int (128 : Int32))])) _
            refine XS.iand X0.here hx rfl (hb hby d2_167) rfl ?_
            show Steps p.tables e below (s₁.setTop (mkF m 168 #[.val (.ref r0), .val (.int p1), .val (.int p2), .val (.int v1), .val (.int (2 : Int32)), .val (.int v6), .val (.int (128 : Int32)), .val (.int (128 : Int32)), .unset, .unset] [(.int (128 : Int32))])) _
            refine XS.sipush X0.here hx rfl (hb hby d2_168) ?_
            show Steps p.tables e below (s₁.setTop (mkF m 171 #[.val (.ref r0), .val (.int p1), .val (.int p2), .val (.int v1), .val (.int (2 : Int32)), .val (.int v6), .val (.int (128 : Int32)), .val (.int (128 : Int32)), .unset, .unset] [(.int (128 : Int32)), (.int (128 : Int32))])) _
            refine XS.icmpYes X0.here hx rfl (pc0 := 171) (pc' := 176) rfl (hb hby d2_171) rfl (teq (by decide : (128 : Int32) = (128 : Int32))).1 (by decide) (by decide) ?_
            show Steps p.tables e below (s₁.setTop (mkF m 176 #[.val (.ref r0), .val (.int p1), .val (.int p2), .val (.int v1), .val (.int (2 : Int32)), .val (.int v6), .val (.int (128 : Int32)), .val (.int (128 : Int32)), .unset, .unset] [])) _
            refine XS.iload X0.here hx rfl (hb hby d2_176) rfl ?_
            show Steps p.tables e below (s₁.setTop (mkF m 178 #[.val (.ref r0), .val (.int p1), .val (.int p2), .val (.int v1), .val (.int (2 : Int32)), .val (.int v6), .val (.int (128 : Int32)), .val (.int (128 : Int32)), .unset, .unset] [(.int (2 : Int32))])) _
            refine XS.iconst X0.here hx rfl (hb hby d2_178) ?_
            show Steps p.tables e below (s₁.setTop (mkF m 179 #[.val (.ref r0), .val (.int p1), .val (.int p2), .val (.int v1), .val (.int (2 : Int32)), .val (.int v6), .val (.int (128 : Int32)), .val (.int (128 : Int32)), .unset, .unset] [(.int (2 : Int32)), (.int (2 : Int32))])) _
            refine XS.icmpNo X0.here hx rfl (hb hby d2_179) rfl (teq (by decide : (2 : Int32) = (2 : Int32))).2 ?_
            show Steps p.tables e below (s₁.setTop (mkF m 182 #[.val (.ref r0), .val (.int p1), .val (.int p2), .val (.int v1), .val (.int (2 : Int32)), .val (.int v6), .val (.int (128 : Int32)), .val (.int (128 : Int32)), .unset, .unset] [])) _
            refine XS.iloadN X0.here hx rfl (hb hby d2_182) rfl ?_
            show Steps p.tables e below (s₁.setTop (mkF m 183 #[.val (.ref r0), .val (.int p1), .val (.int p2), .val (.int v1), .val (.int (2 : Int32)), .val (.int v6), .val (.int (128 : Int32)), .val (.int (128 : Int32)), .unset, .unset] [(.int v1)])) _
            refine XS.bipush X0.here hx rfl (hb hby d2_183) ?_
            show Steps p.tables e below (s₁.setTop (mkF m 185 #[.val (.ref r0), .val (.int p1), .val (.int p2), .val (.int v1), .val (.int (2 : Int32)), .val (.int v6), .val (.int (128 : Int32)), .val (.int (128 : Int32)), .unset, .unset] [(.int (31 : Int32)), (.int v1)])) _
            refine XS.iand X0.here hx rfl (hb hby d2_185) rfl ?_
            show Steps p.tables e below (s₁.setTop (mkF m 186 #[.val (.ref r0), .val (.int p1), .val (.int p2), .val (.int v1), .val (.int (2 : Int32)), .val (.int v6), .val (.int (128 : Int32)), .val (.int (128 : Int32)), .unset, .unset] [(.int (v1 &&& (31 : Int32)))])) _
            refine XS.bipush X0.here hx rfl (hb hby d2_186) ?_
            show Steps p.tables e below (s₁.setTop (mkF m 188 #[.val (.ref r0), .val (.int p1), .val (.int p2), .val (.int v1), .val (.int (2 : Int32)), .val (.int v6), .val (.int (128 : Int32)), .val (.int (128 : Int32)), .unset, .unset] [(.int (6 : Int32)), (.int (v1 &&& (31 : Int32)))])) _
            refine XS.ishl X0.here hx rfl (hb hby d2_188) rfl ?_
            show Steps p.tables e below (s₁.setTop (mkF m 189 #[.val (.ref r0), .val (.int p1), .val (.int p2), .val (.int v1), .val (.int (2 : Int32)), .val (.int v6), .val (.int (128 : Int32)), .val (.int (128 : Int32)), .unset, .unset] [(.int ((v1 &&& (31 : Int32)) <<< ((6 : Int32) &&& 31)))])) _
            refine XS.iload X0.here hx rfl (hb hby d2_189) rfl ?_
            show Steps p.tables e below (s₁.setTop (mkF m 191 #[.val (.ref r0), .val (.int p1), .val (.int p2), .val (.int v1), .val (.int (2 : Int32)), .val (.int v6), .val (.int (128 : Int32)), .val (.int (128 : Int32)), .unset, .unset] [(.int v6), (.int ((v1 &&& (31 : Int32)) <<< ((6 : Int32) &&& 31)))])) _
            refine XS.bipush X0.here hx rfl (hb hby d2_191) ?_
            show Steps p.tables e below (s₁.setTop (mkF m 193 #[.val (.ref r0), .val (.int p1), .val (.int p2), .val (.int v1), .val (.int (2 : Int32)), .val (.int v6), .val (.int (128 : Int32)), .val (.int (128 : Int32)), .unset, .unset] [(.int (63 : Int32)), (.int v6), (.int ((v1 &&& (31 : Int32)) <<< ((6 : Int32) &&& 31)))])) _
            refine XS.iand X0.here hx rfl (hb hby d2_193) rfl ?_
            show Steps p.tables e below (s₁.setTop (mkF m 194 #[.val (.ref r0), .val (.int p1), .val (.int p2), .val (.int v1), .val (.int (2 : Int32)), .val (.int v6), .val (.int (128 : Int32)), .val (.int (128 : Int32)), .unset, .unset] [(.int (v6 &&& (63 : Int32))), (.int ((v1 &&& (31 : Int32)) <<< ((6 : Int32) &&& 31)))])) _
            refine XS.ior X0.here hx rfl (hb hby d2_194) rfl ?_
            show Steps p.tables e below (s₁.setTop (mkF m 195 #[.val (.ref r0), .val (.int p1), .val (.int p2), .val (.int v1), .val (.int (2 : Int32)), .val (.int v6), .val (.int (128 : Int32)), .val (.int (128 : Int32)), .unset, .unset] [(.int (((v1 &&& (31 : Int32)) <<< ((6 : Int32) &&& 31)) ||| (v6 &&& (63 : Int32))))])) _
            rw [← hv8]
            show Steps p.tables e below (s₁.setTop (mkF m 195 #[.val (.ref r0), .val (.int p1), .val (.int p2), .val (.int v1), .val (.int (2 : Int32)), .val (.int v6), .val (.int (128 : Int32)), .val (.int (128 : Int32)), .unset, .unset] [(.int v8)])) _
            refine XS.istore X0.here hx rfl (hb hby d2_195) rfl (l' := #[.val (.ref r0), .val (.int p1), .val (.int p2), .val (.int v1), .val (.int (2 : Int32)), .val (.int v6), .val (.int (128 : Int32)), .val (.int (128 : Int32)), .val (.int v8), .unset]) rfl ?_
            show Steps p.tables e below (s₁.setTop (mkF m 197 #[.val (.ref r0), .val (.int p1), .val (.int p2), .val (.int v1), .val (.int (2 : Int32)), .val (.int v6), .val (.int (128 : Int32)), .val (.int (128 : Int32)), .val (.int v8), .unset] [])) _
            refine XS.sipush X0.here hx rfl (hb hby d2_197) ?_
            show Steps p.tables e below (s₁.setTop (mkF m 200 #[.val (.ref r0), .val (.int p1), .val (.int p2), .val (.int v1), .val (.int (2 : Int32)), .val (.int v6), .val (.int (128 : Int32)), .val (.int (128 : Int32)), .val (.int v8), .unset] [(.int (128 : Int32))])) _
            refine XS.istore X0.here hx rfl (hb hby d2_200) rfl (l' := #[.val (.ref r0), .val (.int p1), .val (.int p2), .val (.int v1), .val (.int (2 : Int32)), .val (.int v6), .val (.int (128 : Int32)), .val (.int (128 : Int32)), .val (.int v8), .val (.int (128 : Int32))]) rfl ?_
            show Steps p.tables e below (s₁.setTop (mkF m 202 #[.val (.ref r0), .val (.int p1), .val (.int p2), .val (.int v1), .val (.int (2 : Int32)), .val (.int v6), .val (.int (128 : Int32)), .val (.int (128 : Int32)), .val (.int v8), .val (.int (128 : Int32))] [])) _
            refine XS.goto X0.here hx rfl (pc0 := 202) (pc' := 280) rfl (hb hby d2_202) (by decide) (by decide) ?_
            show Steps p.tables e below (s₁.setTop (mkF m 280 #[.val (.ref r0), .val (.int p1), .val (.int p2), .val (.int v1), .val (.int (2 : Int32)), .val (.int v6), .val (.int (128 : Int32)), .val (.int (128 : Int32)), .val (.int v8), .val (.int (128 : Int32))] [])) _
            refine XS.iload X0.here hx rfl (hb hby d2_280) rfl ?_
            show Steps p.tables e below (s₁.setTop (mkF m 282 #[.val (.ref r0), .val (.int p1), .val (.int p2), .val (.int v1), .val (.int (2 : Int32)), .val (.int v6), .val (.int (128 : Int32)), .val (.int (128 : Int32)), .val (.int v8), .val (.int (128 : Int32))] [(.int v8)])) _
            refine XS.iload X0.here hx rfl (hb hby d2_282) rfl ?_
            exact kt
          refine own_go hgo109 ?_
          by_cases hc284_9 : v8 < (128 : Int32)
          · have hgo110 : ∀ t, Steps p.tables e below (s₁.setTop (mkF m 288 #[.val (.ref r0), .val (.int p1), .val (.int p2), .val (.int v1), .val (.int (2 : Int32)), .val (.int v6), .val (.int (128 : Int32)), .val (.int (128 : Int32)), .val (.int v8), .val (.int (128 : Int32))] [(.int (0 : Int32))])) t → Steps p.tables e below (s₁.setTop (mkF m 284 #[.val (.ref r0), .val (.int p1), .val (.int p2), .val (.int v1), .val (.int (2 : Int32)), .val (.int v6), .val (.int (128 : Int32)), .val (.int (128 : Int32)), .val (.int v8), .val (.int (128 : Int32))] [(.int (128 : Int32)), (.int v8)])) t := by
              intro t kt
              show Steps p.tables e below (s₁.setTop (mkF m 284 #[.val (.ref r0), .val (.int p1), .val (.int p2), .val (.int v1), .val (.int (2 : Int32)), .val (.int v6), .val (.int (128 : Int32)), .val (.int (128 : Int32)), .val (.int v8), .val (.int (128 : Int32))] [(.int (128 : Int32)), (.int v8)])) _
              refine XS.icmpNo X0.here hx rfl (hb hby d2_284) rfl (tlt hc284_9).2.1 ?_
              show Steps p.tables e below (s₁.setTop (mkF m 287 #[.val (.ref r0), .val (.int p1), .val (.int p2), .val (.int v1), .val (.int (2 : Int32)), .val (.int v6), .val (.int (128 : Int32)), .val (.int (128 : Int32)), .val (.int v8), .val (.int (128 : Int32))] [])) _
              refine XS.iconst X0.here hx rfl (hb hby d2_287) ?_
              exact kt
            refine own_go hgo110 ?_
            exact own_retI X0 hx Bd.returns Bd.notSynchronized (hb hby d2_288) (by decide) (by decide) (by rw [e0]; exact ⟨(by subst hv8 hv6 hv5 hv1; rw [own_r2, if_neg hc13_2, if_pos hc26_3, if_neg hc76_4, if_pos hc147_7, if_pos hc284_9]), N0, rfl⟩)
          · have hgo111 : ∀ t, Steps p.tables e below (s₁.setTop (mkF m 293 #[.val (.ref r0), .val (.int p1), .val (.int p2), .val (.int v1), .val (.int (2 : Int32)), .val (.int v6), .val (.int (128 : Int32)), .val (.int (128 : Int32)), .val (.int v8), .val (.int (128 : Int32))] [(.int (55296 : Int32)), (.int v8)])) t → Steps p.tables e below (s₁.setTop (mkF m 284 #[.val (.ref r0), .val (.int p1), .val (.int p2), .val (.int v1), .val (.int (2 : Int32)), .val (.int v6), .val (.int (128 : Int32)), .val (.int (128 : Int32)), .val (.int v8), .val (.int (128 : Int32))] [(.int (128 : Int32)), (.int v8)])) t := by
              intro t kt
              show Steps p.tables e below (s₁.setTop (mkF m 284 #[.val (.ref r0), .val (.int p1), .val (.int p2), .val (.int v1), .val (.int (2 : Int32)), .val (.int v6), .val (.int (128 : Int32)), .val (.int (128 : Int32)), .val (.int v8), .val (.int (128 : Int32))] [(.int (128 : Int32)), (.int v8)])) _
              refine XS.icmpYes X0.here hx rfl (pc0 := 284) (pc' := 289) rfl (hb hby d2_284) rfl (flt hc284_9).2.1 (by decide) (by decide) ?_
              show Steps p.tables e below (s₁.setTop (mkF m 289 #[.val (.ref r0), .val (.int p1), .val (.int p2), .val (.int v1), .val (.int (2 : Int32)), .val (.int v6), .val (.int (128 : Int32)), .val (.int (128 : Int32)), .val (.int v8), .val (.int (128 : Int32))] [])) _
              refine XS.iload X0.here hx rfl (hb hby d2_289) rfl ?_
              show Steps p.tables e below (s₁.setTop (mkF m 291 #[.val (.ref r0), .val (.int p1), .val (.int p2), .val (.int v1), .val (.int (2 : Int32)), .val (.int v6), .val (.int (128 : Int32)), .val (.int (128 : Int32)), .val (.int v8), .val (.int (128 : Int32))] [(.int v8)])) _
              refine X0.ldcInt hx hown (mvT hZ (hw _ (List.mem_of_getElem? (i := 9) rfl))) (g := (mkF m 291 #[.val (.ref r0), .val (.int p1), .val (.int p2), .val (.int v1), .val (.int (2 : Int32)), .val (.int v6), .val (.int (128 : Int32)), .val (.int (128 : Int32)), .val (.int v8), .val (.int (128 : Int32))] [(.int v8)])) rfl (hb hby d2_291) _ ?_
              exact kt
            refine own_go hgo111 ?_
            by_cases hc293_10 : v8 < (55296 : Int32)
            · have hgo112 : ∀ t, Steps p.tables e below (s₁.setTop (mkF m 316 #[.val (.ref r0), .val (.int p1), .val (.int p2), .val (.int v1), .val (.int (2 : Int32)), .val (.int v6), .val (.int (128 : Int32)), .val (.int (128 : Int32)), .val (.int v8), .val (.int (128 : Int32))] [(.int (2 : Int32))])) t → Steps p.tables e below (s₁.setTop (mkF m 293 #[.val (.ref r0), .val (.int p1), .val (.int p2), .val (.int v1), .val (.int (2 : Int32)), .val (.int v6), .val (.int (128 : Int32)), .val (.int (128 : Int32)), .val (.int v8), .val (.int (128 : Int32))] [(.int (55296 : Int32)), (.int v8)])) t := by
                intro t kt
                show Steps p.tables e below (s₁.setTop (mkF m 293 #[.val (.ref r0), .val (.int p1), .val (.int p2), .val (.int v1), .val (.int (2 : Int32)), .val (.int v6), .val (.int (128 : Int32)), .val (.int (128 : Int32)), .val (.int v8), .val (.int (128 : Int32))] [(.int (55296 : Int32)), (.int v8)])) _
                refine XS.icmpYes X0.here hx rfl (pc0 := 293) (pc' := 305) rfl (hb hby d2_293) rfl (tlt hc293_10).1 (by decide) (by decide) ?_
                show Steps p.tables e below (s₁.setTop (mkF m 305 #[.val (.ref r0), .val (.int p1), .val (.int p2), .val (.int v1), .val (.int (2 : Int32)), .val (.int v6), .val (.int (128 : Int32)), .val (.int (128 : Int32)), .val (.int v8), .val (.int (128 : Int32))] [])) _
                refine XS.iload X0.here hx rfl (hb hby d2_305) rfl ?_
                show Steps p.tables e below (s₁.setTop (mkF m 307 #[.val (.ref r0), .val (.int p1), .val (.int p2), .val (.int v1), .val (.int (2 : Int32)), .val (.int v6), .val (.int (128 : Int32)), .val (.int (128 : Int32)), .val (.int v8), .val (.int (128 : Int32))] [(.int v8)])) _
                refine X0.ldcInt hx hown (mvT hZ (hw _ (List.mem_of_getElem? (i := 10) rfl))) (g := (mkF m 307 #[.val (.ref r0), .val (.int p1), .val (.int p2), .val (.int v1), .val (.int (2 : Int32)), .val (.int v6), .val (.int (128 : Int32)), .val (.int (128 : Int32)), .val (.int v8), .val (.int (128 : Int32))] [(.int v8)])) rfl (hb hby d2_307) _ ?_
                show Steps p.tables e below (s₁.setTop (mkF m 309 #[.val (.ref r0), .val (.int p1), .val (.int p2), .val (.int v1), .val (.int (2 : Int32)), .val (.int v6), .val (.int (128 : Int32)), .val (.int (128 : Int32)), .val (.int v8), .val (.int (128 : Int32))] [(.int (1114111 : Int32)), (.int v8)])) _
                refine XS.icmpYes X0.here hx rfl (pc0 := 309) (pc' := 314) rfl (hb hby d2_309) rfl (flt (by have y0 := hc293_10; simp only [Int32.lt_iff_toInt_lt, ← Int32.toInt_inj, Int32.reduceToInt] at y0 ⊢; omega : ¬ ((1114111 : Int32) < v8))).2.2.2 (by decide) (by decide) ?_
                show Steps p.tables e below (s₁.setTop (mkF m 314 #[.val (.ref r0), .val (.int p1), .val (.int p2), .val (.int v1), .val (.int (2 : Int32)), .val (.int v6), .val (.int (128 : Int32)), .val (.int (128 : Int32)), .val (.int v8), .val (.int (128 : Int32))] [])) _
                refine XS.iload X0.here hx rfl (hb hby d2_314) rfl ?_
                exact kt
              refine own_go hgo112 ?_
              exact own_retI X0 hx Bd.returns Bd.notSynchronized (hb hby d2_316) (by decide) (by decide) (by rw [e0]; exact ⟨(by subst hv8 hv6 hv5 hv1; rw [own_r2, if_neg hc13_2, if_pos hc26_3, if_neg hc76_4, if_pos hc147_7, if_neg hc284_9, if_pos hc293_10]), N0, rfl⟩)
            · have hgo113 : ∀ t, Steps p.tables e below (s₁.setTop (mkF m 300 #[.val (.ref r0), .val (.int p1), .val (.int p2), .val (.int v1), .val (.int (2 : Int32)), .val (.int v6), .val (.int (128 : Int32)), .val (.int (128 : Int32)), .val (.int v8), .val (.int (128 : Int32))] [(.int (57343 : Int32)), (.int v8)])) t → Steps p.tables e below (s₁.setTop (mkF m 293 #[.val (.ref r0), .val (.int p1), .val (.int p2), .val (.int v1), .val (.int (2 : Int32)), .val (.int v6), .val (.int (128 : Int32)), .val (.int (128 : Int32)), .val (.int v8), .val (.int (128 : Int32))] [(.int (55296 : Int32)), (.int v8)])) t := by
                intro t kt
                show Steps p.tables e below (s₁.setTop (mkF m 293 #[.val (.ref r0), .val (.int p1), .val (.int p2), .val (.int v1), .val (.int (2 : Int32)), .val (.int v6), .val (.int (128 : Int32)), .val (.int (128 : Int32)), .val (.int v8), .val (.int (128 : Int32))] [(.int (55296 : Int32)), (.int v8)])) _
                refine XS.icmpNo X0.here hx rfl (hb hby d2_293) rfl (flt hc293_10).1 ?_
                show Steps p.tables e below (s₁.setTop (mkF m 296 #[.val (.ref r0), .val (.int p1), .val (.int p2), .val (.int v1), .val (.int (2 : Int32)), .val (.int v6), .val (.int (128 : Int32)), .val (.int (128 : Int32)), .val (.int v8), .val (.int (128 : Int32))] [])) _
                refine XS.iload X0.here hx rfl (hb hby d2_296) rfl ?_
                show Steps p.tables e below (s₁.setTop (mkF m 298 #[.val (.ref r0), .val (.int p1), .val (.int p2), .val (.int v1), .val (.int (2 : Int32)), .val (.int v6), .val (.int (128 : Int32)), .val (.int (128 : Int32)), .val (.int v8), .val (.int (128 : Int32))] [(.int v8)])) _
                refine X0.ldcInt hx hown (mvT hZ (hw _ (List.mem_of_getElem? (i := 12) rfl))) (g := (mkF m 298 #[.val (.ref r0), .val (.int p1), .val (.int p2), .val (.int v1), .val (.int (2 : Int32)), .val (.int v6), .val (.int (128 : Int32)), .val (.int (128 : Int32)), .val (.int v8), .val (.int (128 : Int32))] [(.int v8)])) rfl (hb hby d2_298) _ ?_
                exact kt
              refine own_go hgo113 ?_
              by_cases hc300_11 : (57343 : Int32) < v8
              · have hgo114 : ∀ t, Steps p.tables e below (s₁.setTop (mkF m 309 #[.val (.ref r0), .val (.int p1), .val (.int p2), .val (.int v1), .val (.int (2 : Int32)), .val (.int v6), .val (.int (128 : Int32)), .val (.int (128 : Int32)), .val (.int v8), .val (.int (128 : Int32))] [(.int (1114111 : Int32)), (.int v8)])) t → Steps p.tables e below (s₁.setTop (mkF m 300 #[.val (.ref r0), .val (.int p1), .val (.int p2), .val (.int v1), .val (.int (2 : Int32)), .val (.int v6), .val (.int (128 : Int32)), .val (.int (128 : Int32)), .val (.int v8), .val (.int (128 : Int32))] [(.int (57343 : Int32)), (.int v8)])) t := by
                  intro t kt
                  show Steps p.tables e below (s₁.setTop (mkF m 300 #[.val (.ref r0), .val (.int p1), .val (.int p2), .val (.int v1), .val (.int (2 : Int32)), .val (.int v6), .val (.int (128 : Int32)), .val (.int (128 : Int32)), .val (.int v8), .val (.int (128 : Int32))] [(.int (57343 : Int32)), (.int v8)])) _
                  refine XS.icmpYes X0.here hx rfl (pc0 := 300) (pc' := 305) rfl (hb hby d2_300) rfl (tlt hc300_11).2.2.1 (by decide) (by decide) ?_
                  show Steps p.tables e below (s₁.setTop (mkF m 305 #[.val (.ref r0), .val (.int p1), .val (.int p2), .val (.int v1), .val (.int (2 : Int32)), .val (.int v6), .val (.int (128 : Int32)), .val (.int (128 : Int32)), .val (.int v8), .val (.int (128 : Int32))] [])) _
                  refine XS.iload X0.here hx rfl (hb hby d2_305) rfl ?_
                  show Steps p.tables e below (s₁.setTop (mkF m 307 #[.val (.ref r0), .val (.int p1), .val (.int p2), .val (.int v1), .val (.int (2 : Int32)), .val (.int v6), .val (.int (128 : Int32)), .val (.int (128 : Int32)), .val (.int v8), .val (.int (128 : Int32))] [(.int v8)])) _
                  refine X0.ldcInt hx hown (mvT hZ (hw _ (List.mem_of_getElem? (i := 10) rfl))) (g := (mkF m 307 #[.val (.ref r0), .val (.int p1), .val (.int p2), .val (.int v1), .val (.int (2 : Int32)), .val (.int v6), .val (.int (128 : Int32)), .val (.int (128 : Int32)), .val (.int v8), .val (.int (128 : Int32))] [(.int v8)])) rfl (hb hby d2_307) _ ?_
                  exact kt
                refine own_go hgo114 ?_
                by_cases hc309_12 : (1114111 : Int32) < v8
                · have hgo115 : ∀ t, Steps p.tables e below (s₁.setTop (mkF m 313 #[.val (.ref r0), .val (.int p1), .val (.int p2), .val (.int v1), .val (.int (2 : Int32)), .val (.int v6), .val (.int (128 : Int32)), .val (.int (128 : Int32)), .val (.int v8), .val (.int (128 : Int32))] [(.int (0 : Int32))])) t → Steps p.tables e below (s₁.setTop (mkF m 309 #[.val (.ref r0), .val (.int p1), .val (.int p2), .val (.int v1), .val (.int (2 : Int32)), .val (.int v6), .val (.int (128 : Int32)), .val (.int (128 : Int32)), .val (.int v8), .val (.int (128 : Int32))] [(.int (1114111 : Int32)), (.int v8)])) t := by
                    intro t kt
                    show Steps p.tables e below (s₁.setTop (mkF m 309 #[.val (.ref r0), .val (.int p1), .val (.int p2), .val (.int v1), .val (.int (2 : Int32)), .val (.int v6), .val (.int (128 : Int32)), .val (.int (128 : Int32)), .val (.int v8), .val (.int (128 : Int32))] [(.int (1114111 : Int32)), (.int v8)])) _
                    refine XS.icmpNo X0.here hx rfl (hb hby d2_309) rfl (tlt hc309_12).2.2.2 ?_
                    show Steps p.tables e below (s₁.setTop (mkF m 312 #[.val (.ref r0), .val (.int p1), .val (.int p2), .val (.int v1), .val (.int (2 : Int32)), .val (.int v6), .val (.int (128 : Int32)), .val (.int (128 : Int32)), .val (.int v8), .val (.int (128 : Int32))] [])) _
                    refine XS.iconst X0.here hx rfl (hb hby d2_312) ?_
                    exact kt
                  refine own_go hgo115 ?_
                  exact own_retI X0 hx Bd.returns Bd.notSynchronized (hb hby d2_313) (by decide) (by decide) (by rw [e0]; exact ⟨(by subst hv8 hv6 hv5 hv1; rw [own_r2, if_neg hc13_2, if_pos hc26_3, if_neg hc76_4, if_pos hc147_7, if_neg hc284_9, if_neg hc293_10, if_pos hc300_11, if_pos hc309_12]), N0, rfl⟩)
                · have hgo116 : ∀ t, Steps p.tables e below (s₁.setTop (mkF m 316 #[.val (.ref r0), .val (.int p1), .val (.int p2), .val (.int v1), .val (.int (2 : Int32)), .val (.int v6), .val (.int (128 : Int32)), .val (.int (128 : Int32)), .val (.int v8), .val (.int (128 : Int32))] [(.int (2 : Int32))])) t → Steps p.tables e below (s₁.setTop (mkF m 309 #[.val (.ref r0), .val (.int p1), .val (.int p2), .val (.int v1), .val (.int (2 : Int32)), .val (.int v6), .val (.int (128 : Int32)), .val (.int (128 : Int32)), .val (.int v8), .val (.int (128 : Int32))] [(.int (1114111 : Int32)), (.int v8)])) t := by
                    intro t kt
                    show Steps p.tables e below (s₁.setTop (mkF m 309 #[.val (.ref r0), .val (.int p1), .val (.int p2), .val (.int v1), .val (.int (2 : Int32)), .val (.int v6), .val (.int (128 : Int32)), .val (.int (128 : Int32)), .val (.int v8), .val (.int (128 : Int32))] [(.int (1114111 : Int32)), (.int v8)])) _
                    refine XS.icmpYes X0.here hx rfl (pc0 := 309) (pc' := 314) rfl (hb hby d2_309) rfl (flt hc309_12).2.2.2 (by decide) (by decide) ?_
                    show Steps p.tables e below (s₁.setTop (mkF m 314 #[.val (.ref r0), .val (.int p1), .val (.int p2), .val (.int v1), .val (.int (2 : Int32)), .val (.int v6), .val (.int (128 : Int32)), .val (.int (128 : Int32)), .val (.int v8), .val (.int (128 : Int32))] [])) _
                    refine XS.iload X0.here hx rfl (hb hby d2_314) rfl ?_
                    exact kt
                  refine own_go hgo116 ?_
                  exact own_retI X0 hx Bd.returns Bd.notSynchronized (hb hby d2_316) (by decide) (by decide) (by rw [e0]; exact ⟨(by subst hv8 hv6 hv5 hv1; rw [own_r2, if_neg hc13_2, if_pos hc26_3, if_neg hc76_4, if_pos hc147_7, if_neg hc284_9, if_neg hc293_10, if_pos hc300_11, if_neg hc309_12]), N0, rfl⟩)
              · have hgo117 : ∀ t, Steps p.tables e below (s₁.setTop (mkF m 304 #[.val (.ref r0), .val (.int p1), .val (.int p2), .val (.int v1), .val (.int (2 : Int32)), .val (.int v6), .val (.int (128 : Int32)), .val (.int (128 : Int32)), .val (.int v8), .val (.int (128 : Int32))] [(.int (0 : Int32))])) t → Steps p.tables e below (s₁.setTop (mkF m 300 #[.val (.ref r0), .val (.int p1), .val (.int p2), .val (.int v1), .val (.int (2 : Int32)), .val (.int v6), .val (.int (128 : Int32)), .val (.int (128 : Int32)), .val (.int v8), .val (.int (128 : Int32))] [(.int (57343 : Int32)), (.int v8)])) t := by
                  intro t kt
                  show Steps p.tables e below (s₁.setTop (mkF m 300 #[.val (.ref r0), .val (.int p1), .val (.int p2), .val (.int v1), .val (.int (2 : Int32)), .val (.int v6), .val (.int (128 : Int32)), .val (.int (128 : Int32)), .val (.int v8), .val (.int (128 : Int32))] [(.int (57343 : Int32)), (.int v8)])) _
                  refine XS.icmpNo X0.here hx rfl (hb hby d2_300) rfl (flt hc300_11).2.2.1 ?_
                  show Steps p.tables e below (s₁.setTop (mkF m 303 #[.val (.ref r0), .val (.int p1), .val (.int p2), .val (.int v1), .val (.int (2 : Int32)), .val (.int v6), .val (.int (128 : Int32)), .val (.int (128 : Int32)), .val (.int v8), .val (.int (128 : Int32))] [])) _
                  refine XS.iconst X0.here hx rfl (hb hby d2_303) ?_
                  exact kt
                refine own_go hgo117 ?_
                exact own_retI X0 hx Bd.returns Bd.notSynchronized (hb hby d2_304) (by decide) (by decide) (by rw [e0]; exact ⟨(by subst hv8 hv6 hv5 hv1; rw [own_r2, if_neg hc13_2, if_pos hc26_3, if_neg hc76_4, if_pos hc147_7, if_neg hc284_9, if_neg hc293_10, if_neg hc300_11]), N0, rfl⟩)
        · have hgo118 : ∀ t, Steps p.tables e below (s₁.setTop (mkF m 175 #[.val (.ref r0), .val (.int p1), .val (.int p2), .val (.int v1), .val (.int (2 : Int32)), .val (.int v6), .val (.int (128 : Int32)), .val (.int (128 : Int32)), .unset, .unset] [(.int (0 : Int32))])) t → Steps p.tables e below (s₁.setTop (mkF m 147 #[.val (.ref r0), .val (.int p1), .val (.int p2), .val (.int v1), .val (.int (2 : Int32)), .val (.int v6), .val (.int (128 : Int32)), .val (.int (128 : Int32)), .unset, .unset] [(.int (128 : Int32)), (.int (v6 &&& (192 : Int32)))])) t := by
            intro t kt
            show Steps p.tables e below (s₁.setTop (mkF m 147 #[.val (.ref r0), .val (.int p1), .val (.int p2), .val (.int v1), .val (.int (2 : Int32)), .val (.int v6), .val (.int (128 : Int32)), .val (.int (128 : Int32)), .unset, .unset] [(.int (128 : Int32)), (.int (v6 &&& (192 : Int32)))])) _
            refine XS.icmpYes X0.here hx rfl (pc0 := 147) (pc' := 174) rfl (hb hby d2_147) rfl (feq hc147_7).2 (by decide) (by decide) ?_
            show Steps p.tables e below (s₁.setTop (mkF m 174 #[.val (.ref r0), .val (.int p1), .val (.int p2), .val (.int v1), .val (.int (2 : Int32)), .val (.int v6), .val (.int (128 : Int32)), .val (.int (128 : Int32)), .unset, .unset] [])) _
            refine XS.iconst X0.here hx rfl (hb hby d2_174) ?_
            exact kt
          refine own_go hgo118 ?_
          exact own_retI X0 hx Bd.returns Bd.notSynchronized (hb hby d2_175) (by decide) (by decide) (by rw [e0]; exact ⟨(by subst hv6 hv5 hv1; rw [own_r2, if_neg hc13_2, if_pos hc26_3, if_neg hc76_4, if_neg hc147_7]), N0, rfl⟩)
    · have hgo119 : ∀ t, Steps p.tables e below (s₁.setTop (mkF m 43 #[.val (.ref r0), .val (.int p1), .val (.int p2), .val (.int v1), .unset, .unset, .unset, .unset, .unset, .unset] [(.int (224 : Int32)), (.int (v1 &&& (240 : Int32)))])) t → Steps p.tables e below (s₁.setTop (mkF m 26 #[.val (.ref r0), .val (.int p1), .val (.int p2), .val (.int v1), .unset, .unset, .unset, .unset, .unset, .unset] [(.int (192 : Int32)), (.int (v1 &&& (224 : Int32)))])) t := by
        intro t kt
        show Steps p.tables e below (s₁.setTop (mkF m 26 #[.val (.ref r0), .val (.int p1), .val (.int p2), .val (.int v1), .unset, .unset, .unset, .unset, .unset, .unset] [(.int (192 : Int32)), (.int (v1 &&& (224 : Int32)))])) _
        refine XS.icmpYes X0.here hx rfl (pc0 := 26) (pc' := 35) rfl (hb hby d2_26) rfl (feq hc26_3).2 (by decide) (by decide) ?_
        show Steps p.tables e below (s₁.setTop (mkF m 35 #[.val (.ref r0), .val (.int p1), .val (.int p2), .val (.int v1), .unset, .unset, .unset, .unset, .unset, .unset] [])) _
        refine XS.iloadN X0.here hx rfl (hb hby d2_35) rfl ?_
        show Steps p.tables e below (s₁.setTop (mkF m 36 #[.val (.ref r0), .val (.int p1), .val (.int p2), .val (.int v1), .unset, .unset, .unset, .unset, .unset, .unset] [(.int v1)])) _
        refine XS.sipush X0.here hx rfl (hb hby d2_36) ?_
        show Steps p.tables e below (s₁.setTop (mkF m 39 #[.val (.ref r0), .val (.int p1), .val (.int p2), .val (.int v1), .unset, .unset, .unset, .unset, .unset, .unset] [(.int (240 : Int32)), (.int v1)])) _
        refine XS.iand X0.here hx rfl (hb hby d2_39) rfl ?_
        show Steps p.tables e below (s₁.setTop (mkF m 40 #[.val (.ref r0), .val (.int p1), .val (.int p2), .val (.int v1), .unset, .unset, .unset, .unset, .unset, .unset] [(.int (v1 &&& (240 : Int32)))])) _
        refine XS.sipush X0.here hx rfl (hb hby d2_40) ?_
        exact kt
      refine own_go hgo119 ?_
      by_cases hc43_13 : (v1 &&& (240 : Int32)) = (224 : Int32)
      · have hgo120 : ∀ t, Steps p.tables e below (s₁.setTop (mkF m 76 #[.val (.ref r0), .val (.int p1), .val (.int p2), .val (.int v1), .val (.int (3 : Int32)), .unset, .unset, .unset, .unset, .unset] [(.int (3 : Int32)), (.int (p2 - p1))])) t → Steps p.tables e below (s₁.setTop (mkF m 43 #[.val (.ref r0), .val (.int p1), .val (.int p2), .val (.int v1), .unset, .unset, .unset, .unset, .unset, .unset] [(.int (224 : Int32)), (.int (v1 &&& (240 : Int32)))])) t := by
          intro t kt
          show Steps p.tables e below (s₁.setTop (mkF m 43 #[.val (.ref r0), .val (.int p1), .val (.int p2), .val (.int v1), .unset, .unset, .unset, .unset, .unset, .unset] [(.int (224 : Int32)), (.int (v1 &&& (240 : Int32)))])) _
          refine XS.icmpNo X0.here hx rfl (hb hby d2_43) rfl (teq hc43_13).2 ?_
          show Steps p.tables e below (s₁.setTop (mkF m 46 #[.val (.ref r0), .val (.int p1), .val (.int p2), .val (.int v1), .unset, .unset, .unset, .unset, .unset, .unset] [])) _
          refine XS.iconst X0.here hx rfl (hb hby d2_46) ?_
          show Steps p.tables e below (s₁.setTop (mkF m 47 #[.val (.ref r0), .val (.int p1), .val (.int p2), .val (.int v1), .unset, .unset, .unset, .unset, .unset, .unset] [(.int (3 : Int32))])) _
          refine XS.istore X0.here hx rfl (hb hby d2_47) rfl (l' := #[.val (.ref r0), .val (.int p1), .val (.int p2), .val (.int v1), .val (.int (3 : Int32)), .unset, .unset, .unset, .unset, .unset]) rfl ?_
          show Steps p.tables e below (s₁.setTop (mkF m 49 #[.val (.ref r0), .val (.int p1), .val (.int p2), .val (.int v1), .val (.int (3 : Int32)), .unset, .unset, .unset, .unset, .unset] [])) _
          refine XS.goto X0.here hx rfl (pc0 := 49) (pc' := 71) rfl (hb hby d2_49) (by decide) (by decide) ?_
          show Steps p.tables e below (s₁.setTop (mkF m 71 #[.val (.ref r0), .val (.int p1), .val (.int p2), .val (.int v1), .val (.int (3 : Int32)), .unset, .unset, .unset, .unset, .unset] [])) _
          refine XS.iloadN X0.here hx rfl (hb hby d2_71) rfl ?_
          show Steps p.tables e below (s₁.setTop (mkF m 72 #[.val (.ref r0), .val (.int p1), .val (.int p2), .val (.int v1), .val (.int (3 : Int32)), .unset, .unset, .unset, .unset, .unset] [(.int p2)])) _
          refine XS.iloadN X0.here hx rfl (hb hby d2_72) rfl ?_
          show Steps p.tables e below (s₁.setTop (mkF m 73 #[.val (.ref r0), .val (.int p1), .val (.int p2), .val (.int v1), .val (.int (3 : Int32)), .unset, .unset, .unset, .unset, .unset] [(.int p1), (.int p2)])) _
          refine XS.isub X0.here hx rfl (hb hby d2_73) rfl ?_
          show Steps p.tables e below (s₁.setTop (mkF m 74 #[.val (.ref r0), .val (.int p1), .val (.int p2), .val (.int v1), .val (.int (3 : Int32)), .unset, .unset, .unset, .unset, .unset] [(.int (p2 - p1))])) _
          refine XS.iload X0.here hx rfl (hb hby d2_74) rfl ?_
          exact kt
        refine own_go hgo120 ?_
        by_cases hc76_14 : (p2 - p1) < (3 : Int32)
        · have hgo121 : ∀ t, Steps p.tables e below (s₁.setTop (mkF m 80 #[.val (.ref r0), .val (.int p1), .val (.int p2), .val (.int v1), .val (.int (3 : Int32)), .unset, .unset, .unset, .unset, .unset] [(.int (0 : Int32))])) t → Steps p.tables e below (s₁.setTop (mkF m 76 #[.val (.ref r0), .val (.int p1), .val (.int p2), .val (.int v1), .val (.int (3 : Int32)), .unset, .unset, .unset, .unset, .unset] [(.int (3 : Int32)), (.int (p2 - p1))])) t := by
            intro t kt
            show Steps p.tables e below (s₁.setTop (mkF m 76 #[.val (.ref r0), .val (.int p1), .val (.int p2), .val (.int v1), .val (.int (3 : Int32)), .unset, .unset, .unset, .unset, .unset] [(.int (3 : Int32)), (.int (p2 - p1))])) _
            refine XS.icmpNo X0.here hx rfl (hb hby d2_76) rfl (tlt hc76_14).2.1 ?_
            show Steps p.tables e below (s₁.setTop (mkF m 79 #[.val (.ref r0), .val (.int p1), .val (.int p2), .val (.int v1), .val (.int (3 : Int32)), .unset, .unset, .unset, .unset, .unset] [])) _
            refine XS.iconst X0.here hx rfl (hb hby d2_79) ?_
            exact kt
          refine own_go hgo121 ?_
          exact own_retI X0 hx Bd.returns Bd.notSynchronized (hb hby d2_80) (by decide) (by decide) (by rw [e0]; exact ⟨(by subst hv1; rw [own_r2, if_neg hc13_2, if_neg hc26_3, if_pos hc43_13, if_pos hc76_14]), N0, rfl⟩)
        · obtain ⟨v15, hv15⟩ : ∃ z : Int32, z = (p1 + (1 : Int32)) := ⟨_, rfl⟩
          have hin85_122 : ¬ v15 < 0 ∧ v15.toNatClampNeg < 5 := by rw [hv15]; rcases hp with q | q <;> rw [q] <;> decide
          obtain ⟨v16, hv16⟩ : ∃ z : Int32, z = ((f v15.toNatClampNeg) &&& (255 : Int32)) := ⟨_, rfl⟩
          obtain ⟨v17, hv17⟩ : ∃ z : Int32, z = (p1 + (2 : Int32)) := ⟨_, rfl⟩
          have hin102_123 : ¬ v17 < 0 ∧ v17.toNatClampNeg < 5 := by rw [hv17]; rcases hp with q | q <;> rw [q] <;> decide
          obtain ⟨v18, hv18⟩ : ∃ z : Int32, z = ((f v17.toNatClampNeg) &&& (255 : Int32)) := ⟨_, rfl⟩
          have hgo124 : ∀ t, Steps p.tables e below (s₁.setTop (mkF m 147 #[.val (.ref r0), .val (.int p1), .val (.int p2), .val (.int v1), .val (.int (3 : Int32)), .val (.int v16), .val (.int v18), .val (.int (128 : Int32)), .unset, .unset] [(.int (128 : Int32)), (.int (v16 &&& (192 : Int32)))])) t → Steps p.tables e below (s₁.setTop (mkF m 76 #[.val (.ref r0), .val (.int p1), .val (.int p2), .val (.int v1), .val (.int (3 : Int32)), .unset, .unset, .unset, .unset, .unset] [(.int (3 : Int32)), (.int (p2 - p1))])) t := by
            intro t kt
            show Steps p.tables e below (s₁.setTop (mkF m 76 #[.val (.ref r0), .val (.int p1), .val (.int p2), .val (.int v1), .val (.int (3 : Int32)), .unset, .unset, .unset, .unset, .unset] [(.int (3 : Int32)), (.int (p2 - p1))])) _
            refine XS.icmpYes X0.here hx rfl (pc0 := 76) (pc' := 81) rfl (hb hby d2_76) rfl (flt hc76_14).2.1 (by decide) (by decide) ?_
            show Steps p.tables e below (s₁.setTop (mkF m 81 #[.val (.ref r0), .val (.int p1), .val (.int p2), .val (.int v1), .val (.int (3 : Int32)), .unset, .unset, .unset, .unset, .unset] [])) _
            refine XS.aloadN X0.here hx rfl (hb hby d2_81) rfl rfl ?_
            show Steps p.tables e below (s₁.setTop (mkF m 82 #[.val (.ref r0), .val (.int p1), .val (.int p2), .val (.int v1), .val (.int (3 : Int32)), .unset, .unset, .unset, .unset, .unset] [(.ref r0)])) _
            refine XS.iloadN X0.here hx rfl (hb hby d2_82) rfl ?_
            show Steps p.tables e below (s₁.setTop (mkF m 83 #[.val (.ref r0), .val (.int p1), .val (.int p2), .val (.int v1), .val (.int (3 : Int32)), .unset, .unset, .unset, .unset, .unset] [(.int p1), (.ref r0)])) _
            refine XS.iconst X0.here hx rfl (hb hby d2_83) ?_
            show Steps p.tables e below (s₁.setTop (mkF m 84 #[.val (.ref r0), .val (.int p1), .val (.int p2), .val (.int v1), .val (.int (3 : Int32)), .unset, .unset, .unset, .unset, .unset] [(.int (1 : Int32)), (.int p1), (.ref r0)])) _
            refine XS.iadd X0.here hx rfl (hb hby d2_84) rfl ?_
            show Steps p.tables e below (s₁.setTop (mkF m 85 #[.val (.ref r0), .val (.int p1), .val (.int p2), .val (.int v1), .val (.int (3 : Int32)), .unset, .unset, .unset, .unset, .unset] [(.int (p1 + (1 : Int32))), (.ref r0)])) _
            rw [← hv15]
            refine own_ldB X0 hx hZ e0 A_r0 (j := v15) hin85_122 (g := (mkF m 85 #[.val (.ref r0), .val (.int p1), .val (.int p2), .val (.int v1), .val (.int (3 : Int32)), .unset, .unset, .unset, .unset, .unset] [(.int v15), (.ref r0)])) rfl rfl (hb hby d2_85) _ ?_
            show Steps p.tables e below (s₁.setTop (mkF m 86 #[.val (.ref r0), .val (.int p1), .val (.int p2), .val (.int v1), .val (.int (3 : Int32)), .unset, .unset, .unset, .unset, .unset] [(.int (f v15.toNatClampNeg))])) _
            refine XS.sipush X0.here hx rfl (hb hby d2_86) ?_
            show Steps p.tables e below (s₁.setTop (mkF m 89 #[.val (.ref r0), .val (.int p1), .val (.int p2), .val (.int v1), .val (.int (3 : Int32)), .unset, .unset, .unset, .unset, .unset] [(.int (255 : Int32)), (.int (f v15.toNatClampNeg))])) _
            refine XS.iand X0.here hx rfl (hb hby d2_89) rfl ?_
            show Steps p.tables e below (s₁.setTop (mkF m 90 #[.val (.ref r0), .val (.int p1), .val (.int p2), .val (.int v1), .val (.int (3 : Int32)), .unset, .unset, .unset, .unset, .unset] [(.int ((f v15.toNatClampNeg) &&& (255 : Int32)))])) _
            rw [← hv16]
            show Steps p.tables e below (s₁.setTop (mkF m 90 #[.val (.ref r0), .val (.int p1), .val (.int p2), .val (.int v1), .val (.int (3 : Int32)), .unset, .unset, .unset, .unset, .unset] [(.int v16)])) _
            refine XS.istore X0.here hx rfl (hb hby d2_90) rfl (l' := #[.val (.ref r0), .val (.int p1), .val (.int p2), .val (.int v1), .val (.int (3 : Int32)), .val (.int v16), .unset, .unset, .unset, .unset]) rfl ?_
            show Steps p.tables e below (s₁.setTop (mkF m 92 #[.val (.ref r0), .val (.int p1), .val (.int p2), .val (.int v1), .val (.int (3 : Int32)), .val (.int v16), .unset, .unset, .unset, .unset] [])) _
            refine XS.iload X0.here hx rfl (hb hby d2_92) rfl ?_
            show Steps p.tables e below (s₁.setTop (mkF m 94 #[.val (.ref r0), .val (.int p1), .val (.int p2), .val (.int v1), .val (.int (3 : Int32)), .val (.int v16), .unset, .unset, .unset, .unset] [(.int (3 : Int32))])) _
            refine XS.iconst X0.here hx rfl (hb hby d2_94) ?_
            show Steps p.tables e below (s₁.setTop (mkF m 95 #[.val (.ref r0), .val (.int p1), .val (.int p2), .val (.int v1), .val (.int (3 : Int32)), .val (.int v16), .unset, .unset, .unset, .unset] [(.int (3 : Int32)), (.int (3 : Int32))])) _
            refine XS.icmpNo X0.here hx rfl (hb hby d2_95) rfl (flt (by decide : ¬ ((3 : Int32) < (3 : Int32)))).1 ?_
            show Steps p.tables e below (s₁.setTop (mkF m 98 #[.val (.ref r0), .val (.int p1), .val (.int p2), .val (.int v1), .val (.int (3 : Int32)), .val (.int v16), .unset, .unset, .unset, .unset] [])) _
            refine XS.aloadN X0.here hx rfl (hb hby d2_98) rfl rfl ?_
            show Steps p.tables e below (s₁.setTop (mkF m 99 #[.val (.ref r0), .val (.int p1), .val (.int p2), .val (.int v1), .val (.int (3 : Int32)), .val (.int v16), .unset, .unset, .unset, .unset] [(.ref r0)])) _
            refine XS.iloadN X0.here hx rfl (hb hby d2_99) rfl ?_
            show Steps p.tables e below (s₁.setTop (mkF m 100 #[.val (.ref r0), .val (.int p1), .val (.int p2), .val (.int v1), .val (.int (3 : Int32)), .val (.int v16), .unset, .unset, .unset, .unset] [(.int p1), (.ref r0)])) _
            refine XS.iconst X0.here hx rfl (hb hby d2_100) ?_
            show Steps p.tables e below (s₁.setTop (mkF m 101 #[.val (.ref r0), .val (.int p1), .val (.int p2), .val (.int v1), .val (.int (3 : Int32)), .val (.int v16), .unset, .unset, .unset, .unset] [(.int (2 : Int32)), (.int p1), (.ref r0)])) _
            refine XS.iadd X0.here hx rfl (hb hby d2_101) rfl ?_
            show Steps p.tables e below (s₁.setTop (mkF m 102 #[.val (.ref r0), .val (.int p1), .val (.int p2), .val (.int v1), .val (.int (3 : Int32)), .val (.int v16), .unset, .unset, .unset, .unset] [(.int (p1 + (2 : Int32))), (.ref r0)])) _
            rw [← hv17]
            refine own_ldB X0 hx hZ e0 A_r0 (j := v17) hin102_123 (g := (mkF m 102 #[.val (.ref r0), .val (.int p1), .val (.int p2), .val (.int v1), .val (.int (3 : Int32)), .val (.int v16), .unset, .unset, .unset, .unset] [(.int v17), (.ref r0)])) rfl rfl (hb hby d2_102) _ ?_
            show Steps p.tables e below (s₁.setTop (mkF m 103 #[.val (.ref r0), .val (.int p1), .val (.int p2), .val (.int v1), .val (.int (3 : Int32)), .val (.int v16), .unset, .unset, .unset, .unset] [(.int (f v17.toNatClampNeg))])) _
            refine XS.sipush X0.here hx rfl (hb hby d2_103) ?_
            show Steps p.tables e below (s₁.setTop (mkF m 106 #[.val (.ref r0), .val (.int p1), .val (.int p2), .val (.int v1), .val (.int (3 : Int32)), .val (.int v16), .unset, .unset, .unset, .unset] [(.int (255 : Int32)), (.int (f v17.toNatClampNeg))])) _
            refine XS.iand X0.here hx rfl (hb hby d2_106) rfl ?_
            show Steps p.tables e below (s₁.setTop (mkF m 107 #[.val (.ref r0), .val (.int p1), .val (.int p2), .val (.int v1), .val (.int (3 : Int32)), .val (.int v16), .unset, .unset, .unset, .unset] [(.int ((f v17.toNatClampNeg) &&& (255 : Int32)))])) _
            refine XS.goto X0.here hx rfl (pc0 := 107) (pc' := 113) rfl (hb hby d2_107) (by decide) (by decide) ?_
            show Steps p.tables e below (s₁.setTop (mkF m 113 #[.val (.ref r0), .val (.int p1), .val (.int p2), .val (.int v1), .val (.int (3 : Int32)), .val (.int v16), .unset, .unset, .unset, .unset] [(.int ((f v17.toNatClampNeg) &&& (255 : Int32)))])) _
            rw [← hv18]
            show Steps p.tables e below (s₁.setTop (mkF m 113 #[.val (.ref r0), .val (.int p1), .val (.int p2), .val (.int v1), .val (.int (3 : Int32)), .val (.int v16), .unset, .unset, .unset, .unset] [(.int v18)])) _
            refine XS.istore X0.here hx rfl (hb hby d2_113) rfl (l' := #[.val (.ref r0), .val (.int p1), .val (.int p2), .val (.int v1), .val (.int (3 : Int32)), .val (.int v16), .val (.int v18), .unset, .unset, .unset]) rfl ?_
            show Steps p.tables e below (s₁.setTop (mkF m 115 #[.val (.ref r0), .val (.int p1), .val (.int p2), .val (.int v1), .val (.int (3 : Int32)), .val (.int v16), .val (.int v18), .unset, .unset, .unset] [])) _
            refine XS.iload X0.here hx rfl (hb hby d2_115) rfl ?_
            show Steps p.tables e below (s₁.setTop (mkF m 117 #[.val (.ref r0), .val (.int p1), .val (.int p2), .val (.int v1), .val (.int (3 : Int32)), .val (.int v16), .val (.int v18), .unset, .unset, .unset] [(.int (3 : Int32))])) _
            refine XS.iconst X0.here hx rfl (hb hby d2_117) ?_
            show Steps p.tables e below (s₁.setTop (mkF m 118 #[.val (.ref r0), .val (.int p1), .val (.int p2), .val (.int v1), .val (.int (3 : Int32)), .val (.int v16), .val (.int v18), .unset, .unset, .unset] [(.int (4 : Int32)), (.int (3 : Int32))])) _
            refine XS.icmpYes X0.here hx rfl (pc0 := 118) (pc' := 133) rfl (hb hby d2_118) rfl (tlt (by decide : (3 : Int32) < (4 : Int32))).1 (by decide) (by decide) ?_
            show Steps p.tables e below (s₁.setTop (mkF m 133 #[.val (.ref r0), .val (.int p1), .val (.int p2), .val (.int v1), .val (.int (3 : Int32)), .val (.int v16), .val (.int v18), .unset, .unset, .unset] [])) _
            refine XS.sipush X0.here hx rfl (hb hby d2_133) ?_
            show Steps p.tables e below (s₁.setTop (mkF m 136 #[.val (.ref r0), .val (.int p1), .val (.int p2), .val (.int v1), .val (.int (3 : Int32)), .val (.int v16), .val (.int v18), .unset, .unset, .unset] [(.int (128 : Int32))])) _
            refine XS.istore X0.here hx rfl (hb hby d2_136) rfl (l' := #[.val (.ref r0), .val (.int p1), .val (.int p2), .val (.int v1), .val (.int (3 : Int32)), .val (.int v16), .val (.int v18), .val (.int (128 : Int32)), .unset, .unset]) rfl ?_
            show Steps p.tables e below (s₁.setTop (mkF m 138 #[.val (.ref r0), .val (.int p1), .val (.int p2), .val (.int v1), .val (.int (3 : Int32)), .val (.int v16), .val (.int v18), .val (.int (128 : Int32)), .unset, .unset] [])) _
            refine XS.iload X0.here hx rfl (hb hby d2_138) rfl ?_
            show Steps p.tables e below (s₁.setTop (mkF m 140 #[.val (.ref r0), .val (.int p1), .val (.int p2), .val (.int v1), .val (.int (3 : Int32)), .val (.int v16), .val (.int v18), .val (.int (128 : Int32)), .unset, .unset] [(.int v16)])) _
            refine XS.sipush X0.here hx rfl (hb hby d2_140) ?_
            show Steps p.tables e below (s₁.setTop (mkF m 143 #[.val (.ref r0), .val (.int p1), .val (.int p2), .val (.int v1), .val (.int (3 : Int32)), .val (.int v16), .val (.int v18), .val (.int (128 : Int32)), .unset, .unset] [(.int (192 : Int32)), (.int v16)])) _
            refine XS.iand X0.here hx rfl (hb hby d2_143) rfl ?_
            show Steps p.tables e below (s₁.setTop (mkF m 144 #[.val (.ref r0), .val (.int p1), .val (.int p2), .val (.int v1), .val (.int (3 : Int32)), .val (.int v16), .val (.int v18), .val (.int (128 : Int32)), .unset, .unset] [(.int (v16 &&& (192 : Int32)))])) _
            refine XS.sipush X0.here hx rfl (hb hby d2_144) ?_
            exact kt
          refine own_go hgo124 ?_
          by_cases hc147_19 : (v16 &&& (192 : Int32)) = (128 : Int32)
          · have hgo125 : ∀ t, Steps p.tables e below (s₁.setTop (mkF m 159 #[.val (.ref r0), .val (.int p1), .val (.int p2), .val (.int v1), .val (.int (3 : Int32)), .val (.int v16), .val (.int v18), .val (.int (128 : Int32)), .unset, .unset] [(.int (128 : Int32)), (.int (v18 &&& (192 : Int32)))])) t → Steps p.tables e below (s₁.setTop (mkF m 147 #[.val (.ref r0), .val (.int p1), .val (.int p2), .val (.int v1), .val (.int (3 : Int32)), .val (.int v16), .val (.int v18), .val (.int (128 : Int32)), .unset, .unset] [(.int (128 : Int32)), (.int (v16 &&& (192 : Int32)))])) t := by
              intro t kt
              show Steps p.tables e below (s₁.setTop (mkF m 147 #[.val (.ref r0), .val (.int p1), .val (.int p2), .val (.int v1), .val (.int (3 : Int32)), .val (.int v16), .val (.int v18), .val (.int (128 : Int32)), .unset, .unset] [(.int (128 : Int32)), (.int (v16 &&& (192 : Int32)))])) _
              refine XS.icmpNo X0.here hx rfl (hb hby d2_147) rfl (teq hc147_19).2 ?_
              show Steps p.tables e below (s₁.setTop (mkF m 150 #[.val (.ref r0), .val (.int p1), .val (.int p2), .val (.int v1), .val (.int (3 : Int32)), .val (.int v16), .val (.int v18), .val (.int (128 : Int32)), .unset, .unset] [])) _
              refine XS.iload X0.here hx rfl (hb hby d2_150) rfl ?_
              show Steps p.tables e below (s₁.setTop (mkF m 152 #[.val (.ref r0), .val (.int p1), .val (.int p2), .val (.int v1), .val (.int (3 : Int32)), .val (.int v16), .val (.int v18), .val (.int (128 : Int32)), .unset, .unset] [(.int v18)])) _
              refine XS.sipush X0.here hx rfl (hb hby d2_152) ?_
              show Steps p.tables e below (s₁.setTop (mkF m 155 #[.val (.ref r0), .val (.int p1), .val (.int p2), .val (.int v1), .val (.int (3 : Int32)), .val (.int v16), .val (.int v18), .val (.int (128 : Int32)), .unset, .unset] [(.int (192 : Int32)), (.int v18)])) _
              refine XS.iand X0.here hx rfl (hb hby d2_155) rfl ?_
              show Steps p.tables e below (s₁.setTop (mkF m 156 #[.val (.ref r0), .val (.int p1), .val (.int p2), .val (.int v1), .val (.int (3 : Int32)), .val (.int v16), .val (.int v18), .val (.int (128 : Int32)), .unset, .unset] [(.int (v18 &&& (192 : Int32)))])) _
              refine XS.sipush X0.here hx rfl (hb hby d2_156) ?_
              exact kt
            refine own_go hgo125 ?_
            by_cases hc159_20 : (v18 &&& (192 : Int32)) = (128 : Int32)
            · obtain ⟨v21, hv21⟩ : ∃ z : Int32, z = ((((v1 &&& (15 : Int32)) <<< ((12 : Int32) &&& 31)) ||| ((v16 &&& (63 : Int32)) <<< ((6 : Int32) &&& 31))) ||| (v18 &&& (63 : Int32))) := ⟨_, rfl⟩
              have hgo126 : ∀ t, Steps p.tables e below (s₁.setTop (mkF m 284 #[.val (.ref r0), .val (.int p1), .val (.int p2), .val (.int v1), .val (.int (3 : Int32)), .val (.int v16), .val (.int v18), .val (.int (128 : Int32)), .val (.int v21), .val (.int (2048 : Int32))] [(.int (2048 : Int32)), (.int v21)])) t → Steps p.tables e below (s₁.setTop (mkF m 159 #[.val (.ref r0), .val (.int p1), .val (.int p2), .val (.int v1), .val (.int (3 : Int32)), .val (.int v16), .val (.int v18), .val (.int (128 : Int32)), .unset, .unset] [(.int (128 : Int32)), (.int (v18 &&& (192 : Int32)))])) t := by
                intro t kt
                show Steps p.tables e below (s₁.setTop (mkF m 159 #[.val (.ref r0), .val (.int p1), .val (.int p2), .val (.int v1), .val (.int (3 : Int32)), .val (.int v16), .val (.int v18), .val (.int (128 : Int32)), .unset, .unset] [(.int (128 : Int32)), (.int (v18 &&& (192 : Int32)))])) _
                refine XS.icmpNo X0.here hx rfl (hb hby d2_159) rfl (teq hc159_20).2 ?_
                show Steps p.tables e below (s₁.setTop (mkF m 162 #[.val (.ref r0), .val (.int p1), .val (.int p2), .val (.int v1), .val (.int (3 : Int32)), .val (.int v16), .val (.int v18), .val (.int (128 : Int32)), .unset, .unset] [])) _
                refine XS.iload X0.here hx rfl (hb hby d2_162) rfl ?_
                show Steps p.tables e below (s₁.setTop (mkF m 164 #[.val (.ref r0), .val (.int p1), .val (.int p2), .val (.int v1), .val (.int (3 : Int32)), .val (.int v16), .val (.int v18), .val (.int (128 : Int32)), .unset, .unset] [(.int (128 : Int32))])) _
                refine XS.sipush X0.here hx rfl (hb hby d2_164) ?_
                show Steps p.tables e below (s₁.setTop (mkF m 167 #[.val (.ref r0), .val (.int p1), .val (.int p2), .val (.int v1), .val (.int (3 : Int32)), .val (.int v16), .val (.int v18), .val (.int (128 : Int32)), .unset, .unset] [(.int (192 : Int32)), (.int (128 : Int32))])) _
                refine XS.iand X0.here hx rfl (hb hby d2_167) rfl ?_
                show Steps p.tables e below (s₁.setTop (mkF m 168 #[.val (.ref r0), .val (.int p1), .val (.int p2), .val (.int v1), .val (.int (3 : Int32)), .val (.int v16), .val (.int v18), .val (.int (128 : Int32)), .unset, .unset] [(.int (128 : Int32))])) _
                refine XS.sipush X0.here hx rfl (hb hby d2_168) ?_
                show Steps p.tables e below (s₁.setTop (mkF m 171 #[.val (.ref r0), .val (.int p1), .val (.int p2), .val (.int v1), .val (.int (3 : Int32)), .val (.int v16), .val (.int v18), .val (.int (128 : Int32)), .unset, .unset] [(.int (128 : Int32)), (.int (128 : Int32))])) _
                refine XS.icmpYes X0.here hx rfl (pc0 := 171) (pc' := 176) rfl (hb hby d2_171) rfl (teq (by decide : (128 : Int32) = (128 : Int32))).1 (by decide) (by decide) ?_
                show Steps p.tables e below (s₁.setTop (mkF m 176 #[.val (.ref r0), .val (.int p1), .val (.int p2), .val (.int v1), .val (.int (3 : Int32)), .val (.int v16), .val (.int v18), .val (.int (128 : Int32)), .unset, .unset] [])) _
                refine XS.iload X0.here hx rfl (hb hby d2_176) rfl ?_
                show Steps p.tables e below (s₁.setTop (mkF m 178 #[.val (.ref r0), .val (.int p1), .val (.int p2), .val (.int v1), .val (.int (3 : Int32)), .val (.int v16), .val (.int v18), .val (.int (128 : Int32)), .unset, .unset] [(.int (3 : Int32))])) _
                refine XS.iconst X0.here hx rfl (hb hby d2_178) ?_
                show Steps p.tables e below (s₁.setTop (mkF m 179 #[.val (.ref r0), .val (.int p1), .val (.int p2), .val (.int v1), .val (.int (3 : Int32)), .val (.int v16), .val (.int v18), .val (.int (128 : Int32)), .unset, .unset] [(.int (2 : Int32)), (.int (3 : Int32))])) _
                refine XS.icmpYes X0.here hx rfl (pc0 := 179) (pc' := 205) rfl (hb hby d2_179) rfl (feq (by decide : ¬ ((3 : Int32) = (2 : Int32)))).2 (by decide) (by decide) ?_
                show Steps p.tables e below (s₁.setTop (mkF m 205 #[.val (.ref r0), .val (.int p1), .val (.int p2), .val (.int v1), .val (.int (3 : Int32)), .val (.int v16), .val (.int v18), .val (.int (128 : Int32)), .unset, .unset] [])) _
                refine XS.iload X0.here hx rfl (hb hby d2_205) rfl ?_
                show Steps p.tables e below (s₁.setTop (mkF m 207 #[.val (.ref r0), .val (.int p1), .val (.int p2), .val (.int v1), .val (.int (3 : Int32)), .val (.int v16), .val (.int v18), .val (.int (128 : Int32)), .unset, .unset] [(.int (3 : Int32))])) _
                refine XS.iconst X0.here hx rfl (hb hby d2_207) ?_
                show Steps p.tables e below (s₁.setTop (mkF m 208 #[.val (.ref r0), .val (.int p1), .val (.int p2), .val (.int v1), .val (.int (3 : Int32)), .val (.int v16), .val (.int v18), .val (.int (128 : Int32)), .unset, .unset] [(.int (3 : Int32)), (.int (3 : Int32))])) _
                refine XS.icmpNo X0.here hx rfl (hb hby d2_208) rfl (teq (by decide : (3 : Int32) = (3 : Int32))).2 ?_
                show Steps p.tables e below (s₁.setTop (mkF m 211 #[.val (.ref r0), .val (.int p1), .val (.int p2), .val (.int v1), .val (.int (3 : Int32)), .val (.int v16), .val (.int v18), .val (.int (128 : Int32)), .unset, .unset] [])) _
                refine XS.iloadN X0.here hx rfl (hb hby d2_211) rfl ?_
                show Steps p.tables e below (s₁.setTop (mkF m 212 #[.val (.ref r0), .val (.int p1), .val (.int p2), .val (.int v1), .val (.int (3 : Int32)), .val (.int v16), .val (.int v18), .val (.int (128 : Int32)), .unset, .unset] [(.int v1)])) _
                refine XS.bipush X0.here hx rfl (hb hby d2_212) ?_
                show Steps p.tables e below (s₁.setTop (mkF m 214 #[.val (.ref r0), .val (.int p1), .val (.int p2), .val (.int v1), .val (.int (3 : Int32)), .val (.int v16), .val (.int v18), .val (.int (128 : Int32)), .unset, .unset] [(.int (15 : Int32)), (.int v1)])) _
                refine XS.iand X0.here hx rfl (hb hby d2_214) rfl ?_
                show Steps p.tables e below (s₁.setTop (mkF m 215 #[.val (.ref r0), .val (.int p1), .val (.int p2), .val (.int v1), .val (.int (3 : Int32)), .val (.int v16), .val (.int v18), .val (.int (128 : Int32)), .unset, .unset] [(.int (v1 &&& (15 : Int32)))])) _
                refine XS.bipush X0.here hx rfl (hb hby d2_215) ?_
                show Steps p.tables e below (s₁.setTop (mkF m 217 #[.val (.ref r0), .val (.int p1), .val (.int p2), .val (.int v1), .val (.int (3 : Int32)), .val (.int v16), .val (.int v18), .val (.int (128 : Int32)), .unset, .unset] [(.int (12 : Int32)), (.int (v1 &&& (15 : Int32)))])) _
                refine XS.ishl X0.here hx rfl (hb hby d2_217) rfl ?_
                show Steps p.tables e below (s₁.setTop (mkF m 218 #[.val (.ref r0), .val (.int p1), .val (.int p2), .val (.int v1), .val (.int (3 : Int32)), .val (.int v16), .val (.int v18), .val (.int (128 : Int32)), .unset, .unset] [(.int ((v1 &&& (15 : Int32)) <<< ((12 : Int32) &&& 31)))])) _
                refine XS.iload X0.here hx rfl (hb hby d2_218) rfl ?_
                show Steps p.tables e below (s₁.setTop (mkF m 220 #[.val (.ref r0), .val (.int p1), .val (.int p2), .val (.int v1), .val (.int (3 : Int32)), .val (.int v16), .val (.int v18), .val (.int (128 : Int32)), .unset, .unset] [(.int v16), (.int ((v1 &&& (15 : Int32)) <<< ((12 : Int32) &&& 31)))])) _
                refine XS.bipush X0.here hx rfl (hb hby d2_220) ?_
                show Steps p.tables e below (s₁.setTop (mkF m 222 #[.val (.ref r0), .val (.int p1), .val (.int p2), .val (.int v1), .val (.int (3 : Int32)), .val (.int v16), .val (.int v18), .val (.int (128 : Int32)), .unset, .unset] [(.int (63 : Int32)), (.int v16), (.int ((v1 &&& (15 : Int32)) <<< ((12 : Int32) &&& 31)))])) _
                refine XS.iand X0.here hx rfl (hb hby d2_222) rfl ?_
                show Steps p.tables e below (s₁.setTop (mkF m 223 #[.val (.ref r0), .val (.int p1), .val (.int p2), .val (.int v1), .val (.int (3 : Int32)), .val (.int v16), .val (.int v18), .val (.int (128 : Int32)), .unset, .unset] [(.int (v16 &&& (63 : Int32))), (.int ((v1 &&& (15 : Int32)) <<< ((12 : Int32) &&& 31)))])) _
                refine XS.bipush X0.here hx rfl (hb hby d2_223) ?_
                show Steps p.tables e below (s₁.setTop (mkF m 225 #[.val (.ref r0), .val (.int p1), .val (.int p2), .val (.int v1), .val (.int (3 : Int32)), .val (.int v16), .val (.int v18), .val (.int (128 : Int32)), .unset, .unset] [(.int (6 : Int32)), (.int (v16 &&& (63 : Int32))), (.int ((v1 &&& (15 : Int32)) <<< ((12 : Int32) &&& 31)))])) _
                refine XS.ishl X0.here hx rfl (hb hby d2_225) rfl ?_
                show Steps p.tables e below (s₁.setTop (mkF m 226 #[.val (.ref r0), .val (.int p1), .val (.int p2), .val (.int v1), .val (.int (3 : Int32)), .val (.int v16), .val (.int v18), .val (.int (128 : Int32)), .unset, .unset] [(.int ((v16 &&& (63 : Int32)) <<< ((6 : Int32) &&& 31))), (.int ((v1 &&& (15 : Int32)) <<< ((12 : Int32) &&& 31)))])) _
                refine XS.ior X0.here hx rfl (hb hby d2_226) rfl ?_
                show Steps p.tables e below (s₁.setTop (mkF m 227 #[.val (.ref r0), .val (.int p1), .val (.int p2), .val (.int v1), .val (.int (3 : Int32)), .val (.int v16), .val (.int v18), .val (.int (128 : Int32)), .unset, .unset] [(.int (((v1 &&& (15 : Int32)) <<< ((12 : Int32) &&& 31)) ||| ((v16 &&& (63 : Int32)) <<< ((6 : Int32) &&& 31))))])) _
                refine XS.iload X0.here hx rfl (hb hby d2_227) rfl ?_
                show Steps p.tables e below (s₁.setTop (mkF m 229 #[.val (.ref r0), .val (.int p1), .val (.int p2), .val (.int v1), .val (.int (3 : Int32)), .val (.int v16), .val (.int v18), .val (.int (128 : Int32)), .unset, .unset] [(.int v18), (.int (((v1 &&& (15 : Int32)) <<< ((12 : Int32) &&& 31)) ||| ((v16 &&& (63 : Int32)) <<< ((6 : Int32) &&& 31))))])) _
                refine XS.bipush X0.here hx rfl (hb hby d2_229) ?_
                show Steps p.tables e below (s₁.setTop (mkF m 231 #[.val (.ref r0), .val (.int p1), .val (.int p2), .val (.int v1), .val (.int (3 : Int32)), .val (.int v16), .val (.int v18), .val (.int (128 : Int32)), .unset, .unset] [(.int (63 : Int32)), (.int v18), (.int (((v1 &&& (15 : Int32)) <<< ((12 : Int32) &&& 31)) ||| ((v16 &&& (63 : Int32)) <<< ((6 : Int32) &&& 31))))])) _
                refine XS.iand X0.here hx rfl (hb hby d2_231) rfl ?_
                show Steps p.tables e below (s₁.setTop (mkF m 232 #[.val (.ref r0), .val (.int p1), .val (.int p2), .val (.int v1), .val (.int (3 : Int32)), .val (.int v16), .val (.int v18), .val (.int (128 : Int32)), .unset, .unset] [(.int (v18 &&& (63 : Int32))), (.int (((v1 &&& (15 : Int32)) <<< ((12 : Int32) &&& 31)) ||| ((v16 &&& (63 : Int32)) <<< ((6 : Int32) &&& 31))))])) _
                refine XS.ior X0.here hx rfl (hb hby d2_232) rfl ?_
                show Steps p.tables e below (s₁.setTop (mkF m 233 #[.val (.ref r0), .val (.int p1), .val (.int p2), .val (.int v1), .val (.int (3 : Int32)), .val (.int v16), .val (.int v18), .val (.int (128 : Int32)), .unset, .unset] [(.int ((((v1 &&& (15 : Int32)) <<< ((12 : Int32) &&& 31)) ||| ((v16 &&& (63 : Int32)) <<< ((6 : Int32) &&& 31))) ||| (v18 &&& (63 : Int32))))])) _
                rw [← hv21]
                show Steps p.tables e below (s₁.setTop (mkF m 233 #[.val (.ref r0), .val (.int p1), .val (.int p2), .val (.int v1), .val (.int (3 : Int32)), .val (.int v16), .val (.int v18), .val (.int (128 : Int32)), .unset, .unset] [(.int v21)])) _
                refine XS.istore X0.here hx rfl (hb hby d2_233) rfl (l' := #[.val (.ref r0), .val (.int p1), .val (.int p2), .val (.int v1), .val (.int (3 : Int32)), .val (.int v16), .val (.int v18), .val (.int (128 : Int32)), .val (.int v21), .unset]) rfl ?_
                show Steps p.tables e below (s₁.setTop (mkF m 235 #[.val (.ref r0), .val (.int p1), .val (.int p2), .val (.int v1), .val (.int (3 : Int32)), .val (.int v16), .val (.int v18), .val (.int (128 : Int32)), .val (.int v21), .unset] [])) _
                refine XS.sipush X0.here hx rfl (hb hby d2_235) ?_
                show Steps p.tables e below (s₁.setTop (mkF m 238 #[.val (.ref r0), .val (.int p1), .val (.int p2), .val (.int v1), .val (.int (3 : Int32)), .val (.int v16), .val (.int v18), .val (.int (128 : Int32)), .val (.int v21), .unset] [(.int (2048 : Int32))])) _
                refine XS.istore X0.here hx rfl (hb hby d2_238) rfl (l' := #[.val (.ref r0), .val (.int p1), .val (.int p2), .val (.int v1), .val (.int (3 : Int32)), .val (.int v16), .val (.int v18), .val (.int (128 : Int32)), .val (.int v21), .val (.int (2048 : Int32))]) rfl ?_
                show Steps p.tables e below (s₁.setTop (mkF m 240 #[.val (.ref r0), .val (.int p1), .val (.int p2), .val (.int v1), .val (.int (3 : Int32)), .val (.int v16), .val (.int v18), .val (.int (128 : Int32)), .val (.int v21), .val (.int (2048 : Int32))] [])) _
                refine XS.goto X0.here hx rfl (pc0 := 240) (pc' := 280) rfl (hb hby d2_240) (by decide) (by decide) ?_
                show Steps p.tables e below (s₁.setTop (mkF m 280 #[.val (.ref r0), .val (.int p1), .val (.int p2), .val (.int v1), .val (.int (3 : Int32)), .val (.int v16), .val (.int v18), .val (.int (128 : Int32)), .val (.int v21), .val (.int (2048 : Int32))] [])) _
                refine XS.iload X0.here hx rfl (hb hby d2_280) rfl ?_
                show Steps p.tables e below (s₁.setTop (mkF m 282 #[.val (.ref r0), .val (.int p1), .val (.int p2), .val (.int v1), .val (.int (3 : Int32)), .val (.int v16), .val (.int v18), .val (.int (128 : Int32)), .val (.int v21), .val (.int (2048 : Int32))] [(.int v21)])) _
                refine XS.iload X0.here hx rfl (hb hby d2_282) rfl ?_
                exact kt
              refine own_go hgo126 ?_
              by_cases hc284_22 : v21 < (2048 : Int32)
              · have hgo127 : ∀ t, Steps p.tables e below (s₁.setTop (mkF m 288 #[.val (.ref r0), .val (.int p1), .val (.int p2), .val (.int v1), .val (.int (3 : Int32)), .val (.int v16), .val (.int v18), .val (.int (128 : Int32)), .val (.int v21), .val (.int (2048 : Int32))] [(.int (0 : Int32))])) t → Steps p.tables e below (s₁.setTop (mkF m 284 #[.val (.ref r0), .val (.int p1), .val (.int p2), .val (.int v1), .val (.int (3 : Int32)), .val (.int v16), .val (.int v18), .val (.int (128 : Int32)), .val (.int v21), .val (.int (2048 : Int32))] [(.int (2048 : Int32)), (.int v21)])) t := by
                  intro t kt
                  show Steps p.tables e below (s₁.setTop (mkF m 284 #[.val (.ref r0), .val (.int p1), .val (.int p2), .val (.int v1), .val (.int (3 : Int32)), .val (.int v16), .val (.int v18), .val (.int (128 : Int32)), .val (.int v21), .val (.int (2048 : Int32))] [(.int (2048 : Int32)), (.int v21)])) _
                  refine XS.icmpNo X0.here hx rfl (hb hby d2_284) rfl (tlt hc284_22).2.1 ?_
                  show Steps p.tables e below (s₁.setTop (mkF m 287 #[.val (.ref r0), .val (.int p1), .val (.int p2), .val (.int v1), .val (.int (3 : Int32)), .val (.int v16), .val (.int v18), .val (.int (128 : Int32)), .val (.int v21), .val (.int (2048 : Int32))] [])) _
                  refine XS.iconst X0.here hx rfl (hb hby d2_287) ?_
                  exact kt
                refine own_go hgo127 ?_
                exact own_retI X0 hx Bd.returns Bd.notSynchronized (hb hby d2_288) (by decide) (by decide) (by rw [e0]; exact ⟨(by subst hv21 hv18 hv17 hv16 hv15 hv1; rw [own_r2, if_neg hc13_2, if_neg hc26_3, if_pos hc43_13, if_neg hc76_14, if_pos hc147_19, if_pos hc159_20, if_pos hc284_22]), N0, rfl⟩)
              · have hgo128 : ∀ t, Steps p.tables e below (s₁.setTop (mkF m 293 #[.val (.ref r0), .val (.int p1), .val (.int p2), .val (.int v1), .val (.int (3 : Int32)), .val (.int v16), .val (.int v18), .val (.int (128 : Int32)), .val (.int v21), .val (.int (2048 : Int32))] [(.int (55296 : Int32)), (.int v21)])) t → Steps p.tables e below (s₁.setTop (mkF m 284 #[.val (.ref r0), .val (.int p1), .val (.int p2), .val (.int v1), .val (.int (3 : Int32)), .val (.int v16), .val (.int v18), .val (.int (128 : Int32)), .val (.int v21), .val (.int (2048 : Int32))] [(.int (2048 : Int32)), (.int v21)])) t := by
                  intro t kt
                  show Steps p.tables e below (s₁.setTop (mkF m 284 #[.val (.ref r0), .val (.int p1), .val (.int p2), .val (.int v1), .val (.int (3 : Int32)), .val (.int v16), .val (.int v18), .val (.int (128 : Int32)), .val (.int v21), .val (.int (2048 : Int32))] [(.int (2048 : Int32)), (.int v21)])) _
                  refine XS.icmpYes X0.here hx rfl (pc0 := 284) (pc' := 289) rfl (hb hby d2_284) rfl (flt hc284_22).2.1 (by decide) (by decide) ?_
                  show Steps p.tables e below (s₁.setTop (mkF m 289 #[.val (.ref r0), .val (.int p1), .val (.int p2), .val (.int v1), .val (.int (3 : Int32)), .val (.int v16), .val (.int v18), .val (.int (128 : Int32)), .val (.int v21), .val (.int (2048 : Int32))] [])) _
                  refine XS.iload X0.here hx rfl (hb hby d2_289) rfl ?_
                  show Steps p.tables e below (s₁.setTop (mkF m 291 #[.val (.ref r0), .val (.int p1), .val (.int p2), .val (.int v1), .val (.int (3 : Int32)), .val (.int v16), .val (.int v18), .val (.int (128 : Int32)), .val (.int v21), .val (.int (2048 : Int32))] [(.int v21)])) _
                  refine X0.ldcInt hx hown (mvT hZ (hw _ (List.mem_of_getElem? (i := 9) rfl))) (g := (mkF m 291 #[.val (.ref r0), .val (.int p1), .val (.int p2), .val (.int v1), .val (.int (3 : Int32)), .val (.int v16), .val (.int v18), .val (.int (128 : Int32)), .val (.int v21), .val (.int (2048 : Int32))] [(.int v21)])) rfl (hb hby d2_291) _ ?_
                  exact kt
                refine own_go hgo128 ?_
                by_cases hc293_23 : v21 < (55296 : Int32)
                · have hgo129 : ∀ t, Steps p.tables e below (s₁.setTop (mkF m 316 #[.val (.ref r0), .val (.int p1), .val (.int p2), .val (.int v1), .val (.int (3 : Int32)), .val (.int v16), .val (.int v18), .val (.int (128 : Int32)), .val (.int v21), .val (.int (2048 : Int32))] [(.int (3 : Int32))])) t → Steps p.tables e below (s₁.setTop (mkF m 293 #[.val (.ref r0), .val (.int p1), .val (.int p2), .val (.int v1), .val (.int (3 : Int32)), .val (.int v16), .val (.int v18), .val (.int (128 : Int32)), .val (.int v21), .val (.int (2048 : Int32))] [(.int (55296 : Int32)), (.int v21)])) t := by
                    intro t kt
                    show Steps p.tables e below (s₁.setTop (mkF m 293 #[.val (.ref r0), .val (.int p1), .val (.int p2), .val (.int v1), .val (.int (3 : Int32)), .val (.int v16), .val (.int v18), .val (.int (128 : Int32)), .val (.int v21), .val (.int (2048 : Int32))] [(.int (55296 : Int32)), (.int v21)])) _
                    refine XS.icmpYes X0.here hx rfl (pc0 := 293) (pc' := 305) rfl (hb hby d2_293) rfl (tlt hc293_23).1 (by decide) (by decide) ?_
                    show Steps p.tables e below (s₁.setTop (mkF m 305 #[.val (.ref r0), .val (.int p1), .val (.int p2), .val (.int v1), .val (.int (3 : Int32)), .val (.int v16), .val (.int v18), .val (.int (128 : Int32)), .val (.int v21), .val (.int (2048 : Int32))] [])) _
                    refine XS.iload X0.here hx rfl (hb hby d2_305) rfl ?_
                    show Steps p.tables e below (s₁.setTop (mkF m 307 #[.val (.ref r0), .val (.int p1), .val (.int p2), .val (.int v1), .val (.int (3 : Int32)), .val (.int v16), .val (.int v18), .val (.int (128 : Int32)), .val (.int v21), .val (.int (2048 : Int32))] [(.int v21)])) _
                    refine X0.ldcInt hx hown (mvT hZ (hw _ (List.mem_of_getElem? (i := 10) rfl))) (g := (mkF m 307 #[.val (.ref r0), .val (.int p1), .val (.int p2), .val (.int v1), .val (.int (3 : Int32)), .val (.int v16), .val (.int v18), .val (.int (128 : Int32)), .val (.int v21), .val (.int (2048 : Int32))] [(.int v21)])) rfl (hb hby d2_307) _ ?_
                    show Steps p.tables e below (s₁.setTop (mkF m 309 #[.val (.ref r0), .val (.int p1), .val (.int p2), .val (.int v1), .val (.int (3 : Int32)), .val (.int v16), .val (.int v18), .val (.int (128 : Int32)), .val (.int v21), .val (.int (2048 : Int32))] [(.int (1114111 : Int32)), (.int v21)])) _
                    refine XS.icmpYes X0.here hx rfl (pc0 := 309) (pc' := 314) rfl (hb hby d2_309) rfl (flt (by have y0 := hc293_23; simp only [Int32.lt_iff_toInt_lt, ← Int32.toInt_inj, Int32.reduceToInt] at y0 ⊢; omega : ¬ ((1114111 : Int32) < v21))).2.2.2 (by decide) (by decide) ?_
                    show Steps p.tables e below (s₁.setTop (mkF m 314 #[.val (.ref r0), .val (.int p1), .val (.int p2), .val (.int v1), .val (.int (3 : Int32)), .val (.int v16), .val (.int v18), .val (.int (128 : Int32)), .val (.int v21), .val (.int (2048 : Int32))] [])) _
                    refine XS.iload X0.here hx rfl (hb hby d2_314) rfl ?_
                    exact kt
                  refine own_go hgo129 ?_
                  exact own_retI X0 hx Bd.returns Bd.notSynchronized (hb hby d2_316) (by decide) (by decide) (by rw [e0]; exact ⟨(by subst hv21 hv18 hv17 hv16 hv15 hv1; rw [own_r2, if_neg hc13_2, if_neg hc26_3, if_pos hc43_13, if_neg hc76_14, if_pos hc147_19, if_pos hc159_20, if_neg hc284_22, if_pos hc293_23]), N0, rfl⟩)
                · have hgo130 : ∀ t, Steps p.tables e below (s₁.setTop (mkF m 300 #[.val (.ref r0), .val (.int p1), .val (.int p2), .val (.int v1), .val (.int (3 : Int32)), .val (.int v16), .val (.int v18), .val (.int (128 : Int32)), .val (.int v21), .val (.int (2048 : Int32))] [(.int (57343 : Int32)), (.int v21)])) t → Steps p.tables e below (s₁.setTop (mkF m 293 #[.val (.ref r0), .val (.int p1), .val (.int p2), .val (.int v1), .val (.int (3 : Int32)), .val (.int v16), .val (.int v18), .val (.int (128 : Int32)), .val (.int v21), .val (.int (2048 : Int32))] [(.int (55296 : Int32)), (.int v21)])) t := by
                    intro t kt
                    show Steps p.tables e below (s₁.setTop (mkF m 293 #[.val (.ref r0), .val (.int p1), .val (.int p2), .val (.int v1), .val (.int (3 : Int32)), .val (.int v16), .val (.int v18), .val (.int (128 : Int32)), .val (.int v21), .val (.int (2048 : Int32))] [(.int (55296 : Int32)), (.int v21)])) _
                    refine XS.icmpNo X0.here hx rfl (hb hby d2_293) rfl (flt hc293_23).1 ?_
                    show Steps p.tables e below (s₁.setTop (mkF m 296 #[.val (.ref r0), .val (.int p1), .val (.int p2), .val (.int v1), .val (.int (3 : Int32)), .val (.int v16), .val (.int v18), .val (.int (128 : Int32)), .val (.int v21), .val (.int (2048 : Int32))] [])) _
                    refine XS.iload X0.here hx rfl (hb hby d2_296) rfl ?_
                    show Steps p.tables e below (s₁.setTop (mkF m 298 #[.val (.ref r0), .val (.int p1), .val (.int p2), .val (.int v1), .val (.int (3 : Int32)), .val (.int v16), .val (.int v18), .val (.int (128 : Int32)), .val (.int v21), .val (.int (2048 : Int32))] [(.int v21)])) _
                    refine X0.ldcInt hx hown (mvT hZ (hw _ (List.mem_of_getElem? (i := 12) rfl))) (g := (mkF m 298 #[.val (.ref r0), .val (.int p1), .val (.int p2), .val (.int v1), .val (.int (3 : Int32)), .val (.int v16), .val (.int v18), .val (.int (128 : Int32)), .val (.int v21), .val (.int (2048 : Int32))] [(.int v21)])) rfl (hb hby d2_298) _ ?_
                    exact kt
                  refine own_go hgo130 ?_
                  by_cases hc300_24 : (57343 : Int32) < v21
                  · have hgo131 : ∀ t, Steps p.tables e below (s₁.setTop (mkF m 309 #[.val (.ref r0), .val (.int p1), .val (.int p2), .val (.int v1), .val (.int (3 : Int32)), .val (.int v16), .val (.int v18), .val (.int (128 : Int32)), .val (.int v21), .val (.int (2048 : Int32))] [(.int (1114111 : Int32)), (.int v21)])) t → Steps p.tables e below (s₁.setTop (mkF m 300 #[.val (.ref r0), .val (.int p1), .val (.int p2), .val (.int v1), .val (.int (3 : Int32)), .val (.int v16), .val (.int v18), .val (.int (128 : Int32)), .val (.int v21), .val (.int (2048 : Int32))] [(.int (57343 : Int32)), (.int v21)])) t := by
                      intro t kt
                      show Steps p.tables e below (s₁.setTop (mkF m 300 #[.val (.ref r0), .val (.int p1), .val (.int p2), .val (.int v1), .val (.int (3 : Int32)), .val (.int v16), .val (.int v18), .val (.int (128 : Int32)), .val (.int v21), .val (.int (2048 : Int32))] [(.int (57343 : Int32)), (.int v21)])) _
                      refine XS.icmpYes X0.here hx rfl (pc0 := 300) (pc' := 305) rfl (hb hby d2_300) rfl (tlt hc300_24).2.2.1 (by decide) (by decide) ?_
                      show Steps p.tables e below (s₁.setTop (mkF m 305 #[.val (.ref r0), .val (.int p1), .val (.int p2), .val (.int v1), .val (.int (3 : Int32)), .val (.int v16), .val (.int v18), .val (.int (128 : Int32)), .val (.int v21), .val (.int (2048 : Int32))] [])) _
                      refine XS.iload X0.here hx rfl (hb hby d2_305) rfl ?_
                      show Steps p.tables e below (s₁.setTop (mkF m 307 #[.val (.ref r0), .val (.int p1), .val (.int p2), .val (.int v1), .val (.int (3 : Int32)), .val (.int v16), .val (.int v18), .val (.int (128 : Int32)), .val (.int v21), .val (.int (2048 : Int32))] [(.int v21)])) _
                      refine X0.ldcInt hx hown (mvT hZ (hw _ (List.mem_of_getElem? (i := 10) rfl))) (g := (mkF m 307 #[.val (.ref r0), .val (.int p1), .val (.int p2), .val (.int v1), .val (.int (3 : Int32)), .val (.int v16), .val (.int v18), .val (.int (128 : Int32)), .val (.int v21), .val (.int (2048 : Int32))] [(.int v21)])) rfl (hb hby d2_307) _ ?_
                      exact kt
                    refine own_go hgo131 ?_
                    by_cases hc309_25 : (1114111 : Int32) < v21
                    · have hgo132 : ∀ t, Steps p.tables e below (s₁.setTop (mkF m 313 #[.val (.ref r0), .val (.int p1), .val (.int p2), .val (.int v1), .val (.int (3 : Int32)), .val (.int v16), .val (.int v18), .val (.int (128 : Int32)), .val (.int v21), .val (.int (2048 : Int32))] [(.int (0 : Int32))])) t → Steps p.tables e below (s₁.setTop (mkF m 309 #[.val (.ref r0), .val (.int p1), .val (.int p2), .val (.int v1), .val (.int (3 : Int32)), .val (.int v16), .val (.int v18), .val (.int (128 : Int32)), .val (.int v21), .val (.int (2048 : Int32))] [(.int (1114111 : Int32)), (.int v21)])) t := by
                        intro t kt
                        show Steps p.tables e below (s₁.setTop (mkF m 309 #[.val (.ref r0), .val (.int p1), .val (.int p2), .val (.int v1), .val (.int (3 : Int32)), .val (.int v16), .val (.int v18), .val (.int (128 : Int32)), .val (.int v21), .val (.int (2048 : Int32))] [(.int (1114111 : Int32)), (.int v21)])) _
                        refine XS.icmpNo X0.here hx rfl (hb hby d2_309) rfl (tlt hc309_25).2.2.2 ?_
                        show Steps p.tables e below (s₁.setTop (mkF m 312 #[.val (.ref r0), .val (.int p1), .val (.int p2), .val (.int v1), .val (.int (3 : Int32)), .val (.int v16), .val (.int v18), .val (.int (128 : Int32)), .val (.int v21), .val (.int (2048 : Int32))] [])) _
                        refine XS.iconst X0.here hx rfl (hb hby d2_312) ?_
                        exact kt
                      refine own_go hgo132 ?_
                      exact own_retI X0 hx Bd.returns Bd.notSynchronized (hb hby d2_313) (by decide) (by decide) (by rw [e0]; exact ⟨(by subst hv21 hv18 hv17 hv16 hv15 hv1; rw [own_r2, if_neg hc13_2, if_neg hc26_3, if_pos hc43_13, if_neg hc76_14, if_pos hc147_19, if_pos hc159_20, if_neg hc284_22, if_neg hc293_23, if_pos hc300_24, if_pos hc309_25]), N0, rfl⟩)
                    · have hgo133 : ∀ t, Steps p.tables e below (s₁.setTop (mkF m 316 #[.val (.ref r0), .val (.int p1), .val (.int p2), .val (.int v1), .val (.int (3 : Int32)), .val (.int v16), .val (.int v18), .val (.int (128 : Int32)), .val (.int v21), .val (.int (2048 : Int32))] [(.int (3 : Int32))])) t → Steps p.tables e below (s₁.setTop (mkF m 309 #[.val (.ref r0), .val (.int p1), .val (.int p2), .val (.int v1), .val (.int (3 : Int32)), .val (.int v16), .val (.int v18), .val (.int (128 : Int32)), .val (.int v21), .val (.int (2048 : Int32))] [(.int (1114111 : Int32)), (.int v21)])) t := by
                        intro t kt
                        show Steps p.tables e below (s₁.setTop (mkF m 309 #[.val (.ref r0), .val (.int p1), .val (.int p2), .val (.int v1), .val (.int (3 : Int32)), .val (.int v16), .val (.int v18), .val (.int (128 : Int32)), .val (.int v21), .val (.int (2048 : Int32))] [(.int (1114111 : Int32)), (.int v21)])) _
                        refine XS.icmpYes X0.here hx rfl (pc0 := 309) (pc' := 314) rfl (hb hby d2_309) rfl (flt hc309_25).2.2.2 (by decide) (by decide) ?_
                        show Steps p.tables e below (s₁.setTop (mkF m 314 #[.val (.ref r0), .val (.int p1), .val (.int p2), .val (.int v1), .val (.int (3 : Int32)), .val (.int v16), .val (.int v18), .val (.int (128 : Int32)), .val (.int v21), .val (.int (2048 : Int32))] [])) _
                        refine XS.iload X0.here hx rfl (hb hby d2_314) rfl ?_
                        exact kt
                      refine own_go hgo133 ?_
                      exact own_retI X0 hx Bd.returns Bd.notSynchronized (hb hby d2_316) (by decide) (by decide) (by rw [e0]; exact ⟨(by subst hv21 hv18 hv17 hv16 hv15 hv1; rw [own_r2, if_neg hc13_2, if_neg hc26_3, if_pos hc43_13, if_neg hc76_14, if_pos hc147_19, if_pos hc159_20, if_neg hc284_22, if_neg hc293_23, if_pos hc300_24, if_neg hc309_25]), N0, rfl⟩)
                  · have hgo134 : ∀ t, Steps p.tables e below (s₁.setTop (mkF m 304 #[.val (.ref r0), .val (.int p1), .val (.int p2), .val (.int v1), .val (.int (3 : Int32)), .val (.int v16), .val (.int v18), .val (.int (128 : Int32)), .val (.int v21), .val (.int (2048 : Int32))] [(.int (0 : Int32))])) t → Steps p.tables e below (s₁.setTop (mkF m 300 #[.val (.ref r0), .val (.int p1), .val (.int p2), .val (.int v1), .val (.int (3 : Int32)), .val (.int v16), .val (.int v18), .val (.int (128 : Int32)), .val (.int v21), .val (.int (2048 : Int32))] [(.int (57343 : Int32)), (.int v21)])) t := by
                      intro t kt
                      show Steps p.tables e below (s₁.setTop (mkF m 300 #[.val (.ref r0), .val (.int p1), .val (.int p2), .val (.int v1), .val (.int (3 : Int32)), .val (.int v16), .val (.int v18), .val (.int (128 : Int32)), .val (.int v21), .val (.int (2048 : Int32))] [(.int (57343 : Int32)), (.int v21)])) _
                      refine XS.icmpNo X0.here hx rfl (hb hby d2_300) rfl (flt hc300_24).2.2.1 ?_
                      show Steps p.tables e below (s₁.setTop (mkF m 303 #[.val (.ref r0), .val (.int p1), .val (.int p2), .val (.int v1), .val (.int (3 : Int32)), .val (.int v16), .val (.int v18), .val (.int (128 : Int32)), .val (.int v21), .val (.int (2048 : Int32))] [])) _
                      refine XS.iconst X0.here hx rfl (hb hby d2_303) ?_
                      exact kt
                    refine own_go hgo134 ?_
                    exact own_retI X0 hx Bd.returns Bd.notSynchronized (hb hby d2_304) (by decide) (by decide) (by rw [e0]; exact ⟨(by subst hv21 hv18 hv17 hv16 hv15 hv1; rw [own_r2, if_neg hc13_2, if_neg hc26_3, if_pos hc43_13, if_neg hc76_14, if_pos hc147_19, if_pos hc159_20, if_neg hc284_22, if_neg hc293_23, if_neg hc300_24]), N0, rfl⟩)
            · have hgo135 : ∀ t, Steps p.tables e below (s₁.setTop (mkF m 175 #[.val (.ref r0), .val (.int p1), .val (.int p2), .val (.int v1), .val (.int (3 : Int32)), .val (.int v16), .val (.int v18), .val (.int (128 : Int32)), .unset, .unset] [(.int (0 : Int32))])) t → Steps p.tables e below (s₁.setTop (mkF m 159 #[.val (.ref r0), .val (.int p1), .val (.int p2), .val (.int v1), .val (.int (3 : Int32)), .val (.int v16), .val (.int v18), .val (.int (128 : Int32)), .unset, .unset] [(.int (128 : Int32)), (.int (v18 &&& (192 : Int32)))])) t := by
                intro t kt
                show Steps p.tables e below (s₁.setTop (mkF m 159 #[.val (.ref r0), .val (.int p1), .val (.int p2), .val (.int v1), .val (.int (3 : Int32)), .val (.int v16), .val (.int v18), .val (.int (128 : Int32)), .unset, .unset] [(.int (128 : Int32)), (.int (v18 &&& (192 : Int32)))])) _
                refine XS.icmpYes X0.here hx rfl (pc0 := 159) (pc' := 174) rfl (hb hby d2_159) rfl (feq hc159_20).2 (by decide) (by decide) ?_
                show Steps p.tables e below (s₁.setTop (mkF m 174 #[.val (.ref r0), .val (.int p1), .val (.int p2), .val (.int v1), .val (.int (3 : Int32)), .val (.int v16), .val (.int v18), .val (.int (128 : Int32)), .unset, .unset] [])) _
                refine XS.iconst X0.here hx rfl (hb hby d2_174) ?_
                exact kt
              refine own_go hgo135 ?_
              exact own_retI X0 hx Bd.returns Bd.notSynchronized (hb hby d2_175) (by decide) (by decide) (by rw [e0]; exact ⟨(by subst hv18 hv17 hv16 hv15 hv1; rw [own_r2, if_neg hc13_2, if_neg hc26_3, if_pos hc43_13, if_neg hc76_14, if_pos hc147_19, if_neg hc159_20]), N0, rfl⟩)
          · have hgo136 : ∀ t, Steps p.tables e below (s₁.setTop (mkF m 175 #[.val (.ref r0), .val (.int p1), .val (.int p2), .val (.int v1), .val (.int (3 : Int32)), .val (.int v16), .val (.int v18), .val (.int (128 : Int32)), .unset, .unset] [(.int (0 : Int32))])) t → Steps p.tables e below (s₁.setTop (mkF m 147 #[.val (.ref r0), .val (.int p1), .val (.int p2), .val (.int v1), .val (.int (3 : Int32)), .val (.int v16), .val (.int v18), .val (.int (128 : Int32)), .unset, .unset] [(.int (128 : Int32)), (.int (v16 &&& (192 : Int32)))])) t := by
              intro t kt
              show Steps p.tables e below (s₁.setTop (mkF m 147 #[.val (.ref r0), .val (.int p1), .val (.int p2), .val (.int v1), .val (.int (3 : Int32)), .val (.int v16), .val (.int v18), .val (.int (128 : Int32)), .unset, .unset] [(.int (128 : Int32)), (.int (v16 &&& (192 : Int32)))])) _
              refine XS.icmpYes X0.here hx rfl (pc0 := 147) (pc' := 174) rfl (hb hby d2_147) rfl (feq hc147_19).2 (by decide) (by decide) ?_
              show Steps p.tables e below (s₁.setTop (mkF m 174 #[.val (.ref r0), .val (.int p1), .val (.int p2), .val (.int v1), .val (.int (3 : Int32)), .val (.int v16), .val (.int v18), .val (.int (128 : Int32)), .unset, .unset] [])) _
              refine XS.iconst X0.here hx rfl (hb hby d2_174) ?_
              exact kt
            refine own_go hgo136 ?_
            exact own_retI X0 hx Bd.returns Bd.notSynchronized (hb hby d2_175) (by decide) (by decide) (by rw [e0]; exact ⟨(by subst hv18 hv17 hv16 hv15 hv1; rw [own_r2, if_neg hc13_2, if_neg hc26_3, if_pos hc43_13, if_neg hc76_14, if_neg hc147_19]), N0, rfl⟩)
      · have hgo137 : ∀ t, Steps p.tables e below (s₁.setTop (mkF m 60 #[.val (.ref r0), .val (.int p1), .val (.int p2), .val (.int v1), .unset, .unset, .unset, .unset, .unset, .unset] [(.int (240 : Int32)), (.int (v1 &&& (248 : Int32)))])) t → Steps p.tables e below (s₁.setTop (mkF m 43 #[.val (.ref r0), .val (.int p1), .val (.int p2), .val (.int v1), .unset, .unset, .unset, .unset, .unset, .unset] [(.int (224 : Int32)), (.int (v1 &&& (240 : Int32)))])) t := by
          intro t kt
          show Steps p.tables e below (s₁.setTop (mkF m 43 #[.val (.ref r0), .val (.int p1), .val (.int p2), .val (.int v1), .unset, .unset, .unset, .unset, .unset, .unset] [(.int (224 : Int32)), (.int (v1 &&& (240 : Int32)))])) _
          refine XS.icmpYes X0.here hx rfl (pc0 := 43) (pc' := 52) rfl (hb hby d2_43) rfl (feq hc43_13).2 (by decide) (by decide) ?_
          show Steps p.tables e below (s₁.setTop (mkF m 52 #[.val (.ref r0), .val (.int p1), .val (.int p2), .val (.int v1), .unset, .unset, .unset, .unset, .unset, .unset] [])) _
          refine XS.iloadN X0.here hx rfl (hb hby d2_52) rfl ?_
          show Steps p.tables e below (s₁.setTop (mkF m 53 #[.val (.ref r0), .val (.int p1), .val (.int p2), .val (.int v1), .unset, .unset, .unset, .unset, .unset, .unset] [(.int v1)])) _
          refine XS.sipush X0.here hx rfl (hb hby d2_53) ?_
          show Steps p.tables e below (s₁.setTop (mkF m 56 #[.val (.ref r0), .val (.int p1), .val (.int p2), .val (.int v1), .unset, .unset, .unset, .unset, .unset, .unset] [(.int (248 : Int32)), (.int v1)])) _
          refine XS.iand X0.here hx rfl (hb hby d2_56) rfl ?_
          show Steps p.tables e below (s₁.setTop (mkF m 57 #[.val (.ref r0), .val (.int p1), .val (.int p2), .val (.int v1), .unset, .unset, .unset, .unset, .unset, .unset] [(.int (v1 &&& (248 : Int32)))])) _
          refine XS.sipush X0.here hx rfl (hb hby d2_57) ?_
          exact kt
        refine own_go hgo137 ?_
        by_cases hc60_26 : (v1 &&& (248 : Int32)) = (240 : Int32)
        · have hgo138 : ∀ t, Steps p.tables e below (s₁.setTop (mkF m 76 #[.val (.ref r0), .val (.int p1), .val (.int p2), .val (.int v1), .val (.int (4 : Int32)), .unset, .unset, .unset, .unset, .unset] [(.int (4 : Int32)), (.int (p2 - p1))])) t → Steps p.tables e below (s₁.setTop (mkF m 60 #[.val (.ref r0), .val (.int p1), .val (.int p2), .val (.int v1), .unset, .unset, .unset, .unset, .unset, .unset] [(.int (240 : Int32)), (.int (v1 &&& (248 : Int32)))])) t := by
            intro t kt
            show Steps p.tables e below (s₁.setTop (mkF m 60 #[.val (.ref r0), .val (.int p1), .val (.int p2), .val (.int v1), .unset, .unset, .unset, .unset, .unset, .unset] [(.int (240 : Int32)), (.int (v1 &&& (248 : Int32)))])) _
            refine XS.icmpNo X0.here hx rfl (hb hby d2_60) rfl (teq hc60_26).2 ?_
            show Steps p.tables e below (s₁.setTop (mkF m 63 #[.val (.ref r0), .val (.int p1), .val (.int p2), .val (.int v1), .unset, .unset, .unset, .unset, .unset, .unset] [])) _
            refine XS.iconst X0.here hx rfl (hb hby d2_63) ?_
            show Steps p.tables e below (s₁.setTop (mkF m 64 #[.val (.ref r0), .val (.int p1), .val (.int p2), .val (.int v1), .unset, .unset, .unset, .unset, .unset, .unset] [(.int (4 : Int32))])) _
            refine XS.istore X0.here hx rfl (hb hby d2_64) rfl (l' := #[.val (.ref r0), .val (.int p1), .val (.int p2), .val (.int v1), .val (.int (4 : Int32)), .unset, .unset, .unset, .unset, .unset]) rfl ?_
            show Steps p.tables e below (s₁.setTop (mkF m 66 #[.val (.ref r0), .val (.int p1), .val (.int p2), .val (.int v1), .val (.int (4 : Int32)), .unset, .unset, .unset, .unset, .unset] [])) _
            refine XS.goto X0.here hx rfl (pc0 := 66) (pc' := 71) rfl (hb hby d2_66) (by decide) (by decide) ?_
            show Steps p.tables e below (s₁.setTop (mkF m 71 #[.val (.ref r0), .val (.int p1), .val (.int p2), .val (.int v1), .val (.int (4 : Int32)), .unset, .unset, .unset, .unset, .unset] [])) _
            refine XS.iloadN X0.here hx rfl (hb hby d2_71) rfl ?_
            show Steps p.tables e below (s₁.setTop (mkF m 72 #[.val (.ref r0), .val (.int p1), .val (.int p2), .val (.int v1), .val (.int (4 : Int32)), .unset, .unset, .unset, .unset, .unset] [(.int p2)])) _
            refine XS.iloadN X0.here hx rfl (hb hby d2_72) rfl ?_
            show Steps p.tables e below (s₁.setTop (mkF m 73 #[.val (.ref r0), .val (.int p1), .val (.int p2), .val (.int v1), .val (.int (4 : Int32)), .unset, .unset, .unset, .unset, .unset] [(.int p1), (.int p2)])) _
            refine XS.isub X0.here hx rfl (hb hby d2_73) rfl ?_
            show Steps p.tables e below (s₁.setTop (mkF m 74 #[.val (.ref r0), .val (.int p1), .val (.int p2), .val (.int v1), .val (.int (4 : Int32)), .unset, .unset, .unset, .unset, .unset] [(.int (p2 - p1))])) _
            refine XS.iload X0.here hx rfl (hb hby d2_74) rfl ?_
            exact kt
          refine own_go hgo138 ?_
          by_cases hc76_27 : (p2 - p1) < (4 : Int32)
          · have hgo139 : ∀ t, Steps p.tables e below (s₁.setTop (mkF m 80 #[.val (.ref r0), .val (.int p1), .val (.int p2), .val (.int v1), .val (.int (4 : Int32)), .unset, .unset, .unset, .unset, .unset] [(.int (0 : Int32))])) t → Steps p.tables e below (s₁.setTop (mkF m 76 #[.val (.ref r0), .val (.int p1), .val (.int p2), .val (.int v1), .val (.int (4 : Int32)), .unset, .unset, .unset, .unset, .unset] [(.int (4 : Int32)), (.int (p2 - p1))])) t := by
              intro t kt
              show Steps p.tables e below (s₁.setTop (mkF m 76 #[.val (.ref r0), .val (.int p1), .val (.int p2), .val (.int v1), .val (.int (4 : Int32)), .unset, .unset, .unset, .unset, .unset] [(.int (4 : Int32)), (.int (p2 - p1))])) _
              refine XS.icmpNo X0.here hx rfl (hb hby d2_76) rfl (tlt hc76_27).2.1 ?_
              show Steps p.tables e below (s₁.setTop (mkF m 79 #[.val (.ref r0), .val (.int p1), .val (.int p2), .val (.int v1), .val (.int (4 : Int32)), .unset, .unset, .unset, .unset, .unset] [])) _
              refine XS.iconst X0.here hx rfl (hb hby d2_79) ?_
              exact kt
            refine own_go hgo139 ?_
            exact own_retI X0 hx Bd.returns Bd.notSynchronized (hb hby d2_80) (by decide) (by decide) (by rw [e0]; exact ⟨(by subst hv1; rw [own_r2, if_neg hc13_2, if_neg hc26_3, if_neg hc43_13, if_pos hc60_26, if_pos hc76_27]), N0, rfl⟩)
          · obtain ⟨v28, hv28⟩ : ∃ z : Int32, z = (p1 + (1 : Int32)) := ⟨_, rfl⟩
            have hin85_140 : ¬ v28 < 0 ∧ v28.toNatClampNeg < 5 := by rw [hv28]; rcases hp with q | q <;> rw [q] <;> decide
            obtain ⟨v29, hv29⟩ : ∃ z : Int32, z = ((f v28.toNatClampNeg) &&& (255 : Int32)) := ⟨_, rfl⟩
            obtain ⟨v30, hv30⟩ : ∃ z : Int32, z = (p1 + (2 : Int32)) := ⟨_, rfl⟩
            have hin102_141 : ¬ v30 < 0 ∧ v30.toNatClampNeg < 5 := by rw [hv30]; rcases hp with q | q <;> rw [q] <;> decide
            obtain ⟨v31, hv31⟩ : ∃ z : Int32, z = ((f v30.toNatClampNeg) &&& (255 : Int32)) := ⟨_, rfl⟩
            obtain ⟨v32, hv32⟩ : ∃ z : Int32, z = (p1 + (3 : Int32)) := ⟨_, rfl⟩
            have hin125_142 : ¬ v32 < 0 ∧ v32.toNatClampNeg < 5 := by rw [hv32]; rcases hp with q | q <;> rw [q] <;> decide
            obtain ⟨v33, hv33⟩ : ∃ z : Int32, z = ((f v32.toNatClampNeg) &&& (255 : Int32)) := ⟨_, rfl⟩
            have hgo143 : ∀ t, Steps p.tables e below (s₁.setTop (mkF m 147 #[.val (.ref r0), .val (.int p1), .val (.int p2), .val (.int v1), .val (.int (4 : Int32)), .val (.int v29), .val (.int v31), .val (.int v33), .unset, .unset] [(.int (128 : Int32)), (.int (v29 &&& (192 : Int32)))])) t → Steps p.tables e below (s₁.setTop (mkF m 76 #[.val (.ref r0), .val (.int p1), .val (.int p2), .val (.int v1), .val (.int (4 : Int32)), .unset, .unset, .unset, .unset, .unset] [(.int (4 : Int32)), (.int (p2 - p1))])) t := by
              intro t kt
              show Steps p.tables e below (s₁.setTop (mkF m 76 #[.val (.ref r0), .val (.int p1), .val (.int p2), .val (.int v1), .val (.int (4 : Int32)), .unset, .unset, .unset, .unset, .unset] [(.int (4 : Int32)), (.int (p2 - p1))])) _
              refine XS.icmpYes X0.here hx rfl (pc0 := 76) (pc' := 81) rfl (hb hby d2_76) rfl (flt hc76_27).2.1 (by decide) (by decide) ?_
              show Steps p.tables e below (s₁.setTop (mkF m 81 #[.val (.ref r0), .val (.int p1), .val (.int p2), .val (.int v1), .val (.int (4 : Int32)), .unset, .unset, .unset, .unset, .unset] [])) _
              refine XS.aloadN X0.here hx rfl (hb hby d2_81) rfl rfl ?_
              show Steps p.tables e below (s₁.setTop (mkF m 82 #[.val (.ref r0), .val (.int p1), .val (.int p2), .val (.int v1), .val (.int (4 : Int32)), .unset, .unset, .unset, .unset, .unset] [(.ref r0)])) _
              refine XS.iloadN X0.here hx rfl (hb hby d2_82) rfl ?_
              show Steps p.tables e below (s₁.setTop (mkF m 83 #[.val (.ref r0), .val (.int p1), .val (.int p2), .val (.int v1), .val (.int (4 : Int32)), .unset, .unset, .unset, .unset, .unset] [(.int p1), (.ref r0)])) _
              refine XS.iconst X0.here hx rfl (hb hby d2_83) ?_
              show Steps p.tables e below (s₁.setTop (mkF m 84 #[.val (.ref r0), .val (.int p1), .val (.int p2), .val (.int v1), .val (.int (4 : Int32)), .unset, .unset, .unset, .unset, .unset] [(.int (1 : Int32)), (.int p1), (.ref r0)])) _
              refine XS.iadd X0.here hx rfl (hb hby d2_84) rfl ?_
              show Steps p.tables e below (s₁.setTop (mkF m 85 #[.val (.ref r0), .val (.int p1), .val (.int p2), .val (.int v1), .val (.int (4 : Int32)), .unset, .unset, .unset, .unset, .unset] [(.int (p1 + (1 : Int32))), (.ref r0)])) _
              rw [← hv28]
              refine own_ldB X0 hx hZ e0 A_r0 (j := v28) hin85_140 (g := (mkF m 85 #[.val (.ref r0), .val (.int p1), .val (.int p2), .val (.int v1), .val (.int (4 : Int32)), .unset, .unset, .unset, .unset, .unset] [(.int v28), (.ref r0)])) rfl rfl (hb hby d2_85) _ ?_
              show Steps p.tables e below (s₁.setTop (mkF m 86 #[.val (.ref r0), .val (.int p1), .val (.int p2), .val (.int v1), .val (.int (4 : Int32)), .unset, .unset, .unset, .unset, .unset] [(.int (f v28.toNatClampNeg))])) _
              refine XS.sipush X0.here hx rfl (hb hby d2_86) ?_
              show Steps p.tables e below (s₁.setTop (mkF m 89 #[.val (.ref r0), .val (.int p1), .val (.int p2), .val (.int v1), .val (.int (4 : Int32)), .unset, .unset, .unset, .unset, .unset] [(.int (255 : Int32)), (.int (f v28.toNatClampNeg))])) _
              refine XS.iand X0.here hx rfl (hb hby d2_89) rfl ?_
              show Steps p.tables e below (s₁.setTop (mkF m 90 #[.val (.ref r0), .val (.int p1), .val (.int p2), .val (.int v1), .val (.int (4 : Int32)), .unset, .unset, .unset, .unset, .unset] [(.int ((f v28.toNatClampNeg) &&& (255 : Int32)))])) _
              rw [← hv29]
              show Steps p.tables e below (s₁.setTop (mkF m 90 #[.val (.ref r0), .val (.int p1), .val (.int p2), .val (.int v1), .val (.int (4 : Int32)), .unset, .unset, .unset, .unset, .unset] [(.int v29)])) _
              refine XS.istore X0.here hx rfl (hb hby d2_90) rfl (l' := #[.val (.ref r0), .val (.int p1), .val (.int p2), .val (.int v1), .val (.int (4 : Int32)), .val (.int v29), .unset, .unset, .unset, .unset]) rfl ?_
              show Steps p.tables e below (s₁.setTop (mkF m 92 #[.val (.ref r0), .val (.int p1), .val (.int p2), .val (.int v1), .val (.int (4 : Int32)), .val (.int v29), .unset, .unset, .unset, .unset] [])) _
              refine XS.iload X0.here hx rfl (hb hby d2_92) rfl ?_
              show Steps p.tables e below (s₁.setTop (mkF m 94 #[.val (.ref r0), .val (.int p1), .val (.int p2), .val (.int v1), .val (.int (4 : Int32)), .val (.int v29), .unset, .unset, .unset, .unset] [(.int (4 : Int32))])) _
              refine XS.iconst X0.here hx rfl (hb hby d2_94) ?_
              show Steps p.tables e below (s₁.setTop (mkF m 95 #[.val (.ref r0), .val (.int p1), .val (.int p2), .val (.int v1), .val (.int (4 : Int32)), .val (.int v29), .unset, .unset, .unset, .unset] [(.int (3 : Int32)), (.int (4 : Int32))])) _
              refine XS.icmpNo X0.here hx rfl (hb hby d2_95) rfl (flt (by decide : ¬ ((4 : Int32) < (3 : Int32)))).1 ?_
              show Steps p.tables e below (s₁.setTop (mkF m 98 #[.val (.ref r0), .val (.int p1), .val (.int p2), .val (.int v1), .val (.int (4 : Int32)), .val (.int v29), .unset, .unset, .unset, .unset] [])) _
              refine XS.aloadN X0.here hx rfl (hb hby d2_98) rfl rfl ?_
              show Steps p.tables e below (s₁.setTop (mkF m 99 #[.val (.ref r0), .val (.int p1), .val (.int p2), .val (.int v1), .val (.int (4 : Int32)), .val (.int v29), .unset, .unset, .unset, .unset] [(.ref r0)])) _
              refine XS.iloadN X0.here hx rfl (hb hby d2_99) rfl ?_
              show Steps p.tables e below (s₁.setTop (mkF m 100 #[.val (.ref r0), .val (.int p1), .val (.int p2), .val (.int v1), .val (.int (4 : Int32)), .val (.int v29), .unset, .unset, .unset, .unset] [(.int p1), (.ref r0)])) _
              refine XS.iconst X0.here hx rfl (hb hby d2_100) ?_
              show Steps p.tables e below (s₁.setTop (mkF m 101 #[.val (.ref r0), .val (.int p1), .val (.int p2), .val (.int v1), .val (.int (4 : Int32)), .val (.int v29), .unset, .unset, .unset, .unset] [(.int (2 : Int32)), (.int p1), (.ref r0)])) _
              refine XS.iadd X0.here hx rfl (hb hby d2_101) rfl ?_
              show Steps p.tables e below (s₁.setTop (mkF m 102 #[.val (.ref r0), .val (.int p1), .val (.int p2), .val (.int v1), .val (.int (4 : Int32)), .val (.int v29), .unset, .unset, .unset, .unset] [(.int (p1 + (2 : Int32))), (.ref r0)])) _
              rw [← hv30]
              refine own_ldB X0 hx hZ e0 A_r0 (j := v30) hin102_141 (g := (mkF m 102 #[.val (.ref r0), .val (.int p1), .val (.int p2), .val (.int v1), .val (.int (4 : Int32)), .val (.int v29), .unset, .unset, .unset, .unset] [(.int v30), (.ref r0)])) rfl rfl (hb hby d2_102) _ ?_
              show Steps p.tables e below (s₁.setTop (mkF m 103 #[.val (.ref r0), .val (.int p1), .val (.int p2), .val (.int v1), .val (.int (4 : Int32)), .val (.int v29), .unset, .unset, .unset, .unset] [(.int (f v30.toNatClampNeg))])) _
              refine XS.sipush X0.here hx rfl (hb hby d2_103) ?_
              show Steps p.tables e below (s₁.setTop (mkF m 106 #[.val (.ref r0), .val (.int p1), .val (.int p2), .val (.int v1), .val (.int (4 : Int32)), .val (.int v29), .unset, .unset, .unset, .unset] [(.int (255 : Int32)), (.int (f v30.toNatClampNeg))])) _
              refine XS.iand X0.here hx rfl (hb hby d2_106) rfl ?_
              show Steps p.tables e below (s₁.setTop (mkF m 107 #[.val (.ref r0), .val (.int p1), .val (.int p2), .val (.int v1), .val (.int (4 : Int32)), .val (.int v29), .unset, .unset, .unset, .unset] [(.int ((f v30.toNatClampNeg) &&& (255 : Int32)))])) _
              refine XS.goto X0.here hx rfl (pc0 := 107) (pc' := 113) rfl (hb hby d2_107) (by decide) (by decide) ?_
              show Steps p.tables e below (s₁.setTop (mkF m 113 #[.val (.ref r0), .val (.int p1), .val (.int p2), .val (.int v1), .val (.int (4 : Int32)), .val (.int v29), .unset, .unset, .unset, .unset] [(.int ((f v30.toNatClampNeg) &&& (255 : Int32)))])) _
              rw [← hv31]
              show Steps p.tables e below (s₁.setTop (mkF m 113 #[.val (.ref r0), .val (.int p1), .val (.int p2), .val (.int v1), .val (.int (4 : Int32)), .val (.int v29), .unset, .unset, .unset, .unset] [(.int v31)])) _
              refine XS.istore X0.here hx rfl (hb hby d2_113) rfl (l' := #[.val (.ref r0), .val (.int p1), .val (.int p2), .val (.int v1), .val (.int (4 : Int32)), .val (.int v29), .val (.int v31), .unset, .unset, .unset]) rfl ?_
              show Steps p.tables e below (s₁.setTop (mkF m 115 #[.val (.ref r0), .val (.int p1), .val (.int p2), .val (.int v1), .val (.int (4 : Int32)), .val (.int v29), .val (.int v31), .unset, .unset, .unset] [])) _
              refine XS.iload X0.here hx rfl (hb hby d2_115) rfl ?_
              show Steps p.tables e below (s₁.setTop (mkF m 117 #[.val (.ref r0), .val (.int p1), .val (.int p2), .val (.int v1), .val (.int (4 : Int32)), .val (.int v29), .val (.int v31), .unset, .unset, .unset] [(.int (4 : Int32))])) _
              refine XS.iconst X0.here hx rfl (hb hby d2_117) ?_
              show Steps p.tables e below (s₁.setTop (mkF m 118 #[.val (.ref r0), .val (.int p1), .val (.int p2), .val (.int v1), .val (.int (4 : Int32)), .val (.int v29), .val (.int v31), .unset, .unset, .unset] [(.int (4 : Int32)), (.int (4 : Int32))])) _
              refine XS.icmpNo X0.here hx rfl (hb hby d2_118) rfl (flt (by decide : ¬ ((4 : Int32) < (4 : Int32)))).1 ?_
              show Steps p.tables e below (s₁.setTop (mkF m 121 #[.val (.ref r0), .val (.int p1), .val (.int p2), .val (.int v1), .val (.int (4 : Int32)), .val (.int v29), .val (.int v31), .unset, .unset, .unset] [])) _
              refine XS.aloadN X0.here hx rfl (hb hby d2_121) rfl rfl ?_
              show Steps p.tables e below (s₁.setTop (mkF m 122 #[.val (.ref r0), .val (.int p1), .val (.int p2), .val (.int v1), .val (.int (4 : Int32)), .val (.int v29), .val (.int v31), .unset, .unset, .unset] [(.ref r0)])) _
              refine XS.iloadN X0.here hx rfl (hb hby d2_122) rfl ?_
              show Steps p.tables e below (s₁.setTop (mkF m 123 #[.val (.ref r0), .val (.int p1), .val (.int p2), .val (.int v1), .val (.int (4 : Int32)), .val (.int v29), .val (.int v31), .unset, .unset, .unset] [(.int p1), (.ref r0)])) _
              refine XS.iconst X0.here hx rfl (hb hby d2_123) ?_
              show Steps p.tables e below (s₁.setTop (mkF m 124 #[.val (.ref r0), .val (.int p1), .val (.int p2), .val (.int v1), .val (.int (4 : Int32)), .val (.int v29), .val (.int v31), .unset, .unset, .unset] [(.int (3 : Int32)), (.int p1), (.ref r0)])) _
              refine XS.iadd X0.here hx rfl (hb hby d2_124) rfl ?_
              show Steps p.tables e below (s₁.setTop (mkF m 125 #[.val (.ref r0), .val (.int p1), .val (.int p2), .val (.int v1), .val (.int (4 : Int32)), .val (.int v29), .val (.int v31), .unset, .unset, .unset] [(.int (p1 + (3 : Int32))), (.ref r0)])) _
              rw [← hv32]
              refine own_ldB X0 hx hZ e0 A_r0 (j := v32) hin125_142 (g := (mkF m 125 #[.val (.ref r0), .val (.int p1), .val (.int p2), .val (.int v1), .val (.int (4 : Int32)), .val (.int v29), .val (.int v31), .unset, .unset, .unset] [(.int v32), (.ref r0)])) rfl rfl (hb hby d2_125) _ ?_
              show Steps p.tables e below (s₁.setTop (mkF m 126 #[.val (.ref r0), .val (.int p1), .val (.int p2), .val (.int v1), .val (.int (4 : Int32)), .val (.int v29), .val (.int v31), .unset, .unset, .unset] [(.int (f v32.toNatClampNeg))])) _
              refine XS.sipush X0.here hx rfl (hb hby d2_126) ?_
              show Steps p.tables e below (s₁.setTop (mkF m 129 #[.val (.ref r0), .val (.int p1), .val (.int p2), .val (.int v1), .val (.int (4 : Int32)), .val (.int v29), .val (.int v31), .unset, .unset, .unset] [(.int (255 : Int32)), (.int (f v32.toNatClampNeg))])) _
              refine XS.iand X0.here hx rfl (hb hby d2_129) rfl ?_
              show Steps p.tables e below (s₁.setTop (mkF m 130 #[.val (.ref r0), .val (.int p1), .val (.int p2), .val (.int v1), .val (.int (4 : Int32)), .val (.int v29), .val (.int v31), .unset, .unset, .unset] [(.int ((f v32.toNatClampNeg) &&& (255 : Int32)))])) _
              refine XS.goto X0.here hx rfl (pc0 := 130) (pc' := 136) rfl (hb hby d2_130) (by decide) (by decide) ?_
              show Steps p.tables e below (s₁.setTop (mkF m 136 #[.val (.ref r0), .val (.int p1), .val (.int p2), .val (.int v1), .val (.int (4 : Int32)), .val (.int v29), .val (.int v31), .unset, .unset, .unset] [(.int ((f v32.toNatClampNeg) &&& (255 : Int32)))])) _
              rw [← hv33]
              show Steps p.tables e below (s₁.setTop (mkF m 136 #[.val (.ref r0), .val (.int p1), .val (.int p2), .val (.int v1), .val (.int (4 : Int32)), .val (.int v29), .val (.int v31), .unset, .unset, .unset] [(.int v33)])) _
              refine XS.istore X0.here hx rfl (hb hby d2_136) rfl (l' := #[.val (.ref r0), .val (.int p1), .val (.int p2), .val (.int v1), .val (.int (4 : Int32)), .val (.int v29), .val (.int v31), .val (.int v33), .unset, .unset]) rfl ?_
              show Steps p.tables e below (s₁.setTop (mkF m 138 #[.val (.ref r0), .val (.int p1), .val (.int p2), .val (.int v1), .val (.int (4 : Int32)), .val (.int v29), .val (.int v31), .val (.int v33), .unset, .unset] [])) _
              refine XS.iload X0.here hx rfl (hb hby d2_138) rfl ?_
              show Steps p.tables e below (s₁.setTop (mkF m 140 #[.val (.ref r0), .val (.int p1), .val (.int p2), .val (.int v1), .val (.int (4 : Int32)), .val (.int v29), .val (.int v31), .val (.int v33), .unset, .unset] [(.int v29)])) _
              refine XS.sipush X0.here hx rfl (hb hby d2_140) ?_
              show Steps p.tables e below (s₁.setTop (mkF m 143 #[.val (.ref r0), .val (.int p1), .val (.int p2), .val (.int v1), .val (.int (4 : Int32)), .val (.int v29), .val (.int v31), .val (.int v33), .unset, .unset] [(.int (192 : Int32)), (.int v29)])) _
              refine XS.iand X0.here hx rfl (hb hby d2_143) rfl ?_
              show Steps p.tables e below (s₁.setTop (mkF m 144 #[.val (.ref r0), .val (.int p1), .val (.int p2), .val (.int v1), .val (.int (4 : Int32)), .val (.int v29), .val (.int v31), .val (.int v33), .unset, .unset] [(.int (v29 &&& (192 : Int32)))])) _
              refine XS.sipush X0.here hx rfl (hb hby d2_144) ?_
              exact kt
            refine own_go hgo143 ?_
            by_cases hc147_34 : (v29 &&& (192 : Int32)) = (128 : Int32)
            · have hgo144 : ∀ t, Steps p.tables e below (s₁.setTop (mkF m 159 #[.val (.ref r0), .val (.int p1), .val (.int p2), .val (.int v1), .val (.int (4 : Int32)), .val (.int v29), .val (.int v31), .val (.int v33), .unset, .unset] [(.int (128 : Int32)), (.int (v31 &&& (192 : Int32)))])) t → Steps p.tables e below (s₁.setTop (mkF m 147 #[.val (.ref r0), .val (.int p1), .val (.int p2), .val (.int v1), .val (.int (4 : Int32)), .val (.int v29), .val (.int v31), .val (.int v33), .unset, .unset] [(.int (128 : Int32)), (.int (v29 &&& (192 : Int32)))])) t := by
                intro t kt
                show Steps p.tables e below (s₁.setTop (mkF m 147 #[.val (.ref r0), .val (.int p1), .val (.int p2), .val (.int v1), .val (.int (4 : Int32)), .val (.int v29), .val (.int v31), .val (.int v33), .unset, .unset] [(.int (128 : Int32)), (.int (v29 &&& (192 : Int32)))])) _
                refine XS.icmpNo X0.here hx rfl (hb hby d2_147) rfl (teq hc147_34).2 ?_
                show Steps p.tables e below (s₁.setTop (mkF m 150 #[.val (.ref r0), .val (.int p1), .val (.int p2), .val (.int v1), .val (.int (4 : Int32)), .val (.int v29), .val (.int v31), .val (.int v33), .unset, .unset] [])) _
                refine XS.iload X0.here hx rfl (hb hby d2_150) rfl ?_
                show Steps p.tables e below (s₁.setTop (mkF m 152 #[.val (.ref r0), .val (.int p1), .val (.int p2), .val (.int v1), .val (.int (4 : Int32)), .val (.int v29), .val (.int v31), .val (.int v33), .unset, .unset] [(.int v31)])) _
                refine XS.sipush X0.here hx rfl (hb hby d2_152) ?_
                show Steps p.tables e below (s₁.setTop (mkF m 155 #[.val (.ref r0), .val (.int p1), .val (.int p2), .val (.int v1), .val (.int (4 : Int32)), .val (.int v29), .val (.int v31), .val (.int v33), .unset, .unset] [(.int (192 : Int32)), (.int v31)])) _
                refine XS.iand X0.here hx rfl (hb hby d2_155) rfl ?_
                show Steps p.tables e below (s₁.setTop (mkF m 156 #[.val (.ref r0), .val (.int p1), .val (.int p2), .val (.int v1), .val (.int (4 : Int32)), .val (.int v29), .val (.int v31), .val (.int v33), .unset, .unset] [(.int (v31 &&& (192 : Int32)))])) _
                refine XS.sipush X0.here hx rfl (hb hby d2_156) ?_
                exact kt
              refine own_go hgo144 ?_
              by_cases hc159_35 : (v31 &&& (192 : Int32)) = (128 : Int32)
              · have hgo145 : ∀ t, Steps p.tables e below (s₁.setTop (mkF m 171 #[.val (.ref r0), .val (.int p1), .val (.int p2), .val (.int v1), .val (.int (4 : Int32)), .val (.int v29), .val (.int v31), .val (.int v33), .unset, .unset] [(.int (128 : Int32)), (.int (v33 &&& (192 : Int32)))])) t → Steps p.tables e below (s₁.setTop (mkF m 159 #[.val (.ref r0), .val (.int p1), .val (.int p2), .val (.int v1), .val (.int (4 : Int32)), .val (.int v29), .val (.int v31), .val (.int v33), .unset, .unset] [(.int (128 : Int32)), (.int (v31 &&& (192 : Int32)))])) t := by
                  intro t kt
                  show Steps p.tables e below (s₁.setTop (mkF m 159 #[.val (.ref r0), .val (.int p1), .val (.int p2), .val (.int v1), .val (.int (4 : Int32)), .val (.int v29), .val (.int v31), .val (.int v33), .unset, .unset] [(.int (128 : Int32)), (.int (v31 &&& (192 : Int32)))])) _
                  refine XS.icmpNo X0.here hx rfl (hb hby d2_159) rfl (teq hc159_35).2 ?_
                  show Steps p.tables e below (s₁.setTop (mkF m 162 #[.val (.ref r0), .val (.int p1), .val (.int p2), .val (.int v1), .val (.int (4 : Int32)), .val (.int v29), .val (.int v31), .val (.int v33), .unset, .unset] [])) _
                  refine XS.iload X0.here hx rfl (hb hby d2_162) rfl ?_
                  show Steps p.tables e below (s₁.setTop (mkF m 164 #[.val (.ref r0), .val (.int p1), .val (.int p2), .val (.int v1), .val (.int (4 : Int32)), .val (.int v29), .val (.int v31), .val (.int v33), .unset, .unset] [(.int v33)])) _
                  refine XS.sipush X0.here hx rfl (hb hby d2_164) ?_
                  show Steps p.tables e below (s₁.setTop (mkF m 167 #[.val (.ref r0), .val (.int p1), .val (.int p2), .val (.int v1), .val (.int (4 : Int32)), .val (.int v29), .val (.int v31), .val (.int v33), .unset, .unset] [(.int (192 : Int32)), (.int v33)])) _
                  refine XS.iand X0.here hx rfl (hb hby d2_167) rfl ?_
                  show Steps p.tables e below (s₁.setTop (mkF m 168 #[.val (.ref r0), .val (.int p1), .val (.int p2), .val (.int v1), .val (.int (4 : Int32)), .val (.int v29), .val (.int v31), .val (.int v33), .unset, .unset] [(.int (v33 &&& (192 : Int32)))])) _
                  refine XS.sipush X0.here hx rfl (hb hby d2_168) ?_
                  exact kt
                refine own_go hgo145 ?_
                by_cases hc171_36 : (v33 &&& (192 : Int32)) = (128 : Int32)
                · obtain ⟨v37, hv37⟩ : ∃ z : Int32, z = (((((v1 &&& (7 : Int32)) <<< ((18 : Int32) &&& 31)) ||| ((v29 &&& (63 : Int32)) <<< ((12 : Int32) &&& 31))) ||| ((v31 &&& (63 : Int32)) <<< ((6 : Int32) &&& 31))) ||| (v33 &&& (63 : Int32))) := ⟨_, rfl⟩
                  have hgo146 : ∀ t, Steps p.tables e below (s₁.setTop (mkF m 284 #[.val (.ref r0), .val (.int p1), .val (.int p2), .val (.int v1), .val (.int (4 : Int32)), .val (.int v29), .val (.int v31), .val (.int v33), .val (.int v37), .val (.int (65536 : Int32))] [(.int (65536 : Int32)), (.int v37)])) t → Steps p.tables e below (s₁.setTop (mkF m 171 #[.val (.ref r0), .val (.int p1), .val (.int p2), .val (.int v1), .val (.int (4 : Int32)), .val (.int v29), .val (.int v31), .val (.int v33), .unset, .unset] [(.int (128 : Int32)), (.int (v33 &&& (192 : Int32)))])) t := by
                    intro t kt
                    show Steps p.tables e below (s₁.setTop (mkF m 171 #[.val (.ref r0), .val (.int p1), .val (.int p2), .val (.int v1), .val (.int (4 : Int32)), .val (.int v29), .val (.int v31), .val (.int v33), .unset, .unset] [(.int (128 : Int32)), (.int (v33 &&& (192 : Int32)))])) _
                    refine XS.icmpYes X0.here hx rfl (pc0 := 171) (pc' := 176) rfl (hb hby d2_171) rfl (teq hc171_36).1 (by decide) (by decide) ?_
                    show Steps p.tables e below (s₁.setTop (mkF m 176 #[.val (.ref r0), .val (.int p1), .val (.int p2), .val (.int v1), .val (.int (4 : Int32)), .val (.int v29), .val (.int v31), .val (.int v33), .unset, .unset] [])) _
                    refine XS.iload X0.here hx rfl (hb hby d2_176) rfl ?_
                    show Steps p.tables e below (s₁.setTop (mkF m 178 #[.val (.ref r0), .val (.int p1), .val (.int p2), .val (.int v1), .val (.int (4 : Int32)), .val (.int v29), .val (.int v31), .val (.int v33), .unset, .unset] [(.int (4 : Int32))])) _
                    refine XS.iconst X0.here hx rfl (hb hby d2_178) ?_
                    show Steps p.tables e below (s₁.setTop (mkF m 179 #[.val (.ref r0), .val (.int p1), .val (.int p2), .val (.int v1), .val (.int (4 : Int32)), .val (.int v29), .val (.int v31), .val (.int v33), .unset, .unset] [(.int (2 : Int32)), (.int (4 : Int32))])) _
                    refine XS.icmpYes X0.here hx rfl (pc0 := 179) (pc' := 205) rfl (hb hby d2_179) rfl (feq (by decide : ¬ ((4 : Int32) = (2 : Int32)))).2 (by decide) (by decide) ?_
                    show Steps p.tables e below (s₁.setTop (mkF m 205 #[.val (.ref r0), .val (.int p1), .val (.int p2), .val (.int v1), .val (.int (4 : Int32)), .val (.int v29), .val (.int v31), .val (.int v33), .unset, .unset] [])) _
                    refine XS.iload X0.here hx rfl (hb hby d2_205) rfl ?_
                    show Steps p.tables e below (s₁.setTop (mkF m 207 #[.val (.ref r0), .val (.int p1), .val (.int p2), .val (.int v1), .val (.int (4 : Int32)), .val (.int v29), .val (.int v31), .val (.int v33), .unset, .unset] [(.int (4 : Int32))])) _
                    refine XS.iconst X0.here hx rfl (hb hby d2_207) ?_
                    show Steps p.tables e below (s₁.setTop (mkF m 208 #[.val (.ref r0), .val (.int p1), .val (.int p2), .val (.int v1), .val (.int (4 : Int32)), .val (.int v29), .val (.int v31), .val (.int v33), .unset, .unset] [(.int (3 : Int32)), (.int (4 : Int32))])) _
                    refine XS.icmpYes X0.here hx rfl (pc0 := 208) (pc' := 243) rfl (hb hby d2_208) rfl (feq (by decide : ¬ ((4 : Int32) = (3 : Int32)))).2 (by decide) (by decide) ?_
                    show Steps p.tables e below (s₁.setTop (mkF m 243 #[.val (.ref r0), .val (.int p1), .val (.int p2), .val (.int v1), .val (.int (4 : Int32)), .val (.int v29), .val (.int v31), .val (.int v33), .unset, .unset] [])) _
                    refine XS.iloadN X0.here hx rfl (hb hby d2_243) rfl ?_
                    show Steps p.tables e below (s₁.setTop (mkF m 244 #[.val (.ref r0), .val (.int p1), .val (.int p2), .val (.int v1), .val (.int (4 : Int32)), .val (.int v29), .val (.int v31), .val (.int v33), .unset, .unset] [(.int v1)])) _
                    refine XS.bipush X0.here hx rfl (hb hby d2_244) ?_
                    show Steps p.tables e below (s₁.setTop (mkF m 246 #[.val (.ref r0), .val (.int p1), .val (.int p2), .val (.int v1), .val (.int (4 : Int32)), .val (.int v29), .val (.int v31), .val (.int v33), .unset, .unset] [(.int (7 : Int32)), (.int v1)])) _
                    refine XS.iand X0.here hx rfl (hb hby d2_246) rfl ?_
                    show Steps p.tables e below (s₁.setTop (mkF m 247 #[.val (.ref r0), .val (.int p1), .val (.int p2), .val (.int v1), .val (.int (4 : Int32)), .val (.int v29), .val (.int v31), .val (.int v33), .unset, .unset] [(.int (v1 &&& (7 : Int32)))])) _
                    refine XS.bipush X0.here hx rfl (hb hby d2_247) ?_
                    show Steps p.tables e below (s₁.setTop (mkF m 249 #[.val (.ref r0), .val (.int p1), .val (.int p2), .val (.int v1), .val (.int (4 : Int32)), .val (.int v29), .val (.int v31), .val (.int v33), .unset, .unset] [(.int (18 : Int32)), (.int (v1 &&& (7 : Int32)))])) _
                    refine XS.ishl X0.here hx rfl (hb hby d2_249) rfl ?_
                    show Steps p.tables e below (s₁.setTop (mkF m 250 #[.val (.ref r0), .val (.int p1), .val (.int p2), .val (.int v1), .val (.int (4 : Int32)), .val (.int v29), .val (.int v31), .val (.int v33), .unset, .unset] [(.int ((v1 &&& (7 : Int32)) <<< ((18 : Int32) &&& 31)))])) _
                    refine XS.iload X0.here hx rfl (hb hby d2_250) rfl ?_
                    show Steps p.tables e below (s₁.setTop (mkF m 252 #[.val (.ref r0), .val (.int p1), .val (.int p2), .val (.int v1), .val (.int (4 : Int32)), .val (.int v29), .val (.int v31), .val (.int v33), .unset, .unset] [(.int v29), (.int ((v1 &&& (7 : Int32)) <<< ((18 : Int32) &&& 31)))])) _
                    refine XS.bipush X0.here hx rfl (hb hby d2_252) ?_
                    show Steps p.tables e below (s₁.setTop (mkF m 254 #[.val (.ref r0), .val (.int p1), .val (.int p2), .val (.int v1), .val (.int (4 : Int32)), .val (.int v29), .val (.int v31), .val (.int v33), .unset, .unset] [(.int (63 : Int32)), (.int v29), (.int ((v1 &&& (7 : Int32)) <<< ((18 : Int32) &&& 31)))])) _
                    refine XS.iand X0.here hx rfl (hb hby d2_254) rfl ?_
                    show Steps p.tables e below (s₁.setTop (mkF m 255 #[.val (.ref r0), .val (.int p1), .val (.int p2), .val (.int v1), .val (.int (4 : Int32)), .val (.int v29), .val (.int v31), .val (.int v33), .unset, .unset] [(.int (v29 &&& (63 : Int32))), (.int ((v1 &&& (7 : Int32)) <<< ((18 : Int32) &&& 31)))])) _
                    refine XS.bipush X0.here hx rfl (hb hby d2_255) ?_
                    show Steps p.tables e below (s₁.setTop (mkF m 257 #[.val (.ref r0), .val (.int p1), .val (.int p2), .val (.int v1), .val (.int (4 : Int32)), .val (.int v29), .val (.int v31), .val (.int v33), .unset, .unset] [(.int (12 : Int32)), (.int (v29 &&& (63 : Int32))), (.int ((v1 &&& (7 : Int32)) <<< ((18 : Int32) &&& 31)))])) _
                    refine XS.ishl X0.here hx rfl (hb hby d2_257) rfl ?_
                    show Steps p.tables e below (s₁.setTop (mkF m 258 #[.val (.ref r0), .val (.int p1), .val (.int p2), .val (.int v1), .val (.int (4 : Int32)), .val (.int v29), .val (.int v31), .val (.int v33), .unset, .unset] [(.int ((v29 &&& (63 : Int32)) <<< ((12 : Int32) &&& 31))), (.int ((v1 &&& (7 : Int32)) <<< ((18 : Int32) &&& 31)))])) _
                    refine XS.ior X0.here hx rfl (hb hby d2_258) rfl ?_
                    show Steps p.tables e below (s₁.setTop (mkF m 259 #[.val (.ref r0), .val (.int p1), .val (.int p2), .val (.int v1), .val (.int (4 : Int32)), .val (.int v29), .val (.int v31), .val (.int v33), .unset, .unset] [(.int (((v1 &&& (7 : Int32)) <<< ((18 : Int32) &&& 31)) ||| ((v29 &&& (63 : Int32)) <<< ((12 : Int32) &&& 31))))])) _
                    refine XS.iload X0.here hx rfl (hb hby d2_259) rfl ?_
                    show Steps p.tables e below (s₁.setTop (mkF m 261 #[.val (.ref r0), .val (.int p1), .val (.int p2), .val (.int v1), .val (.int (4 : Int32)), .val (.int v29), .val (.int v31), .val (.int v33), .unset, .unset] [(.int v31), (.int (((v1 &&& (7 : Int32)) <<< ((18 : Int32) &&& 31)) ||| ((v29 &&& (63 : Int32)) <<< ((12 : Int32) &&& 31))))])) _
                    refine XS.bipush X0.here hx rfl (hb hby d2_261) ?_
                    show Steps p.tables e below (s₁.setTop (mkF m 263 #[.val (.ref r0), .val (.int p1), .val (.int p2), .val (.int v1), .val (.int (4 : Int32)), .val (.int v29), .val (.int v31), .val (.int v33), .unset, .unset] [(.int (63 : Int32)), (.int v31), (.int (((v1 &&& (7 : Int32)) <<< ((18 : Int32) &&& 31)) ||| ((v29 &&& (63 : Int32)) <<< ((12 : Int32) &&& 31))))])) _
                    refine XS.iand X0.here hx rfl (hb hby d2_263) rfl ?_
                    show Steps p.tables e below (s₁.setTop (mkF m 264 #[.val (.ref r0), .val (.int p1), .val (.int p2), .val (.int v1), .val (.int (4 : Int32)), .val (.int v29), .val (.int v31), .val (.int v33), .unset, .unset] [(.int (v31 &&& (63 : Int32))), (.int (((v1 &&& (7 : Int32)) <<< ((18 : Int32) &&& 31)) ||| ((v29 &&& (63 : Int32)) <<< ((12 : Int32) &&& 31))))])) _
                    refine XS.bipush X0.here hx rfl (hb hby d2_264) ?_
                    show Steps p.tables e below (s₁.setTop (mkF m 266 #[.val (.ref r0), .val (.int p1), .val (.int p2), .val (.int v1), .val (.int (4 : Int32)), .val (.int v29), .val (.int v31), .val (.int v33), .unset, .unset] [(.int (6 : Int32)), (.int (v31 &&& (63 : Int32))), (.int (((v1 &&& (7 : Int32)) <<< ((18 : Int32) &&& 31)) ||| ((v29 &&& (63 : Int32)) <<< ((12 : Int32) &&& 31))))])) _
                    refine XS.ishl X0.here hx rfl (hb hby d2_266) rfl ?_
                    show Steps p.tables e below (s₁.setTop (mkF m 267 #[.val (.ref r0), .val (.int p1), .val (.int p2), .val (.int v1), .val (.int (4 : Int32)), .val (.int v29), .val (.int v31), .val (.int v33), .unset, .unset] [(.int ((v31 &&& (63 : Int32)) <<< ((6 : Int32) &&& 31))), (.int (((v1 &&& (7 : Int32)) <<< ((18 : Int32) &&& 31)) ||| ((v29 &&& (63 : Int32)) <<< ((12 : Int32) &&& 31))))])) _
                    refine XS.ior X0.here hx rfl (hb hby d2_267) rfl ?_
                    show Steps p.tables e below (s₁.setTop (mkF m 268 #[.val (.ref r0), .val (.int p1), .val (.int p2), .val (.int v1), .val (.int (4 : Int32)), .val (.int v29), .val (.int v31), .val (.int v33), .unset, .unset] [(.int ((((v1 &&& (7 : Int32)) <<< ((18 : Int32) &&& 31)) ||| ((v29 &&& (63 : Int32)) <<< ((12 : Int32) &&& 31))) ||| ((v31 &&& (63 : Int32)) <<< ((6 : Int32) &&& 31))))])) _
                    refine XS.iload X0.here hx rfl (hb hby d2_268) rfl ?_
                    show Steps p.tables e below (s₁.setTop (mkF m 270 #[.val (.ref r0), .val (.int p1), .val (.int p2), .val (.int v1), .val (.int (4 : Int32)), .val (.int v29), .val (.int v31), .val (.int v33), .unset, .unset] [(.int v33), (.int ((((v1 &&& (7 : Int32)) <<< ((18 : Int32) &&& 31)) ||| ((v29 &&& (63 : Int32)) <<< ((12 : Int32) &&& 31))) ||| ((v31 &&& (63 : Int32)) <<< ((6 : Int32) &&& 31))))])) _
                    refine XS.bipush X0.here hx rfl (hb hby d2_270) ?_
                    show Steps p.tables e below (s₁.setTop (mkF m 272 #[.val (.ref r0), .val (.int p1), .val (.int p2), .val (.int v1), .val (.int (4 : Int32)), .val (.int v29), .val (.int v31), .val (.int v33), .unset, .unset] [(.int (63 : Int32)), (.int v33), (.int ((((v1 &&& (7 : Int32)) <<< ((18 : Int32) &&& 31)) ||| ((v29 &&& (63 : Int32)) <<< ((12 : Int32) &&& 31))) ||| ((v31 &&& (63 : Int32)) <<< ((6 : Int32) &&& 31))))])) _
                    refine XS.iand X0.here hx rfl (hb hby d2_272) rfl ?_
                    show Steps p.tables e below (s₁.setTop (mkF m 273 #[.val (.ref r0), .val (.int p1), .val (.int p2), .val (.int v1), .val (.int (4 : Int32)), .val (.int v29), .val (.int v31), .val (.int v33), .unset, .unset] [(.int (v33 &&& (63 : Int32))), (.int ((((v1 &&& (7 : Int32)) <<< ((18 : Int32) &&& 31)) ||| ((v29 &&& (63 : Int32)) <<< ((12 : Int32) &&& 31))) ||| ((v31 &&& (63 : Int32)) <<< ((6 : Int32) &&& 31))))])) _
                    refine XS.ior X0.here hx rfl (hb hby d2_273) rfl ?_
                    show Steps p.tables e below (s₁.setTop (mkF m 274 #[.val (.ref r0), .val (.int p1), .val (.int p2), .val (.int v1), .val (.int (4 : Int32)), .val (.int v29), .val (.int v31), .val (.int v33), .unset, .unset] [(.int (((((v1 &&& (7 : Int32)) <<< ((18 : Int32) &&& 31)) ||| ((v29 &&& (63 : Int32)) <<< ((12 : Int32) &&& 31))) ||| ((v31 &&& (63 : Int32)) <<< ((6 : Int32) &&& 31))) ||| (v33 &&& (63 : Int32))))])) _
                    rw [← hv37]
                    show Steps p.tables e below (s₁.setTop (mkF m 274 #[.val (.ref r0), .val (.int p1), .val (.int p2), .val (.int v1), .val (.int (4 : Int32)), .val (.int v29), .val (.int v31), .val (.int v33), .unset, .unset] [(.int v37)])) _
                    refine XS.istore X0.here hx rfl (hb hby d2_274) rfl (l' := #[.val (.ref r0), .val (.int p1), .val (.int p2), .val (.int v1), .val (.int (4 : Int32)), .val (.int v29), .val (.int v31), .val (.int v33), .val (.int v37), .unset]) rfl ?_
                    show Steps p.tables e below (s₁.setTop (mkF m 276 #[.val (.ref r0), .val (.int p1), .val (.int p2), .val (.int v1), .val (.int (4 : Int32)), .val (.int v29), .val (.int v31), .val (.int v33), .val (.int v37), .unset] [])) _
                    refine X0.ldcInt hx hown (mvT hZ (hw _ (List.mem_of_getElem? (i := 11) rfl))) (g := (mkF m 276 #[.val (.ref r0), .val (.int p1), .val (.int p2), .val (.int v1), .val (.int (4 : Int32)), .val (.int v29), .val (.int v31), .val (.int v33), .val (.int v37), .unset] [])) rfl (hb hby d2_276) _ ?_
                    show Steps p.tables e below (s₁.setTop (mkF m 278 #[.val (.ref r0), .val (.int p1), .val (.int p2), .val (.int v1), .val (.int (4 : Int32)), .val (.int v29), .val (.int v31), .val (.int v33), .val (.int v37), .unset] [(.int (65536 : Int32))])) _
                    refine XS.istore X0.here hx rfl (hb hby d2_278) rfl (l' := #[.val (.ref r0), .val (.int p1), .val (.int p2), .val (.int v1), .val (.int (4 : Int32)), .val (.int v29), .val (.int v31), .val (.int v33), .val (.int v37), .val (.int (65536 : Int32))]) rfl ?_
                    show Steps p.tables e below (s₁.setTop (mkF m 280 #[.val (.ref r0), .val (.int p1), .val (.int p2), .val (.int v1), .val (.int (4 : Int32)), .val (.int v29), .val (.int v31), .val (.int v33), .val (.int v37), .val (.int (65536 : Int32))] [])) _
                    refine XS.iload X0.here hx rfl (hb hby d2_280) rfl ?_
                    show Steps p.tables e below (s₁.setTop (mkF m 282 #[.val (.ref r0), .val (.int p1), .val (.int p2), .val (.int v1), .val (.int (4 : Int32)), .val (.int v29), .val (.int v31), .val (.int v33), .val (.int v37), .val (.int (65536 : Int32))] [(.int v37)])) _
                    refine XS.iload X0.here hx rfl (hb hby d2_282) rfl ?_
                    exact kt
                  refine own_go hgo146 ?_
                  by_cases hc284_38 : v37 < (65536 : Int32)
                  · have hgo147 : ∀ t, Steps p.tables e below (s₁.setTop (mkF m 288 #[.val (.ref r0), .val (.int p1), .val (.int p2), .val (.int v1), .val (.int (4 : Int32)), .val (.int v29), .val (.int v31), .val (.int v33), .val (.int v37), .val (.int (65536 : Int32))] [(.int (0 : Int32))])) t → Steps p.tables e below (s₁.setTop (mkF m 284 #[.val (.ref r0), .val (.int p1), .val (.int p2), .val (.int v1), .val (.int (4 : Int32)), .val (.int v29), .val (.int v31), .val (.int v33), .val (.int v37), .val (.int (65536 : Int32))] [(.int (65536 : Int32)), (.int v37)])) t := by
                      intro t kt
                      show Steps p.tables e below (s₁.setTop (mkF m 284 #[.val (.ref r0), .val (.int p1), .val (.int p2), .val (.int v1), .val (.int (4 : Int32)), .val (.int v29), .val (.int v31), .val (.int v33), .val (.int v37), .val (.int (65536 : Int32))] [(.int (65536 : Int32)), (.int v37)])) _
                      refine XS.icmpNo X0.here hx rfl (hb hby d2_284) rfl (tlt hc284_38).2.1 ?_
                      show Steps p.tables e below (s₁.setTop (mkF m 287 #[.val (.ref r0), .val (.int p1), .val (.int p2), .val (.int v1), .val (.int (4 : Int32)), .val (.int v29), .val (.int v31), .val (.int v33), .val (.int v37), .val (.int (65536 : Int32))] [])) _
                      refine XS.iconst X0.here hx rfl (hb hby d2_287) ?_
                      exact kt
                    refine own_go hgo147 ?_
                    exact own_retI X0 hx Bd.returns Bd.notSynchronized (hb hby d2_288) (by decide) (by decide) (by rw [e0]; exact ⟨(by subst hv37 hv33 hv32 hv31 hv30 hv29 hv28 hv1; rw [own_r2, if_neg hc13_2, if_neg hc26_3, if_neg hc43_13, if_pos hc60_26, if_neg hc76_27, if_pos hc147_34, if_pos hc159_35, if_pos hc171_36, if_pos hc284_38]), N0, rfl⟩)
                  · have hgo148 : ∀ t, Steps p.tables e below (s₁.setTop (mkF m 309 #[.val (.ref r0), .val (.int p1), .val (.int p2), .val (.int v1), .val (.int (4 : Int32)), .val (.int v29), .val (.int v31), .val (.int v33), .val (.int v37), .val (.int (65536 : Int32))] [(.int (1114111 : Int32)), (.int v37)])) t → Steps p.tables e below (s₁.setTop (mkF m 284 #[.val (.ref r0), .val (.int p1), .val (.int p2), .val (.int v1), .val (.int (4 : Int32)), .val (.int v29), .val (.int v31), .val (.int v33), .val (.int v37), .val (.int (65536 : Int32))] [(.int (65536 : Int32)), (.int v37)])) t := by
                      intro t kt
                      show Steps p.tables e below (s₁.setTop (mkF m 284 #[.val (.ref r0), .val (.int p1), .val (.int p2), .val (.int v1), .val (.int (4 : Int32)), .val (.int v29), .val (.int v31), .val (.int v33), .val (.int v37), .val (.int (65536 : Int32))] [(.int (65536 : Int32)), (.int v37)])) _
                      refine XS.icmpYes X0.here hx rfl (pc0 := 284) (pc' := 289) rfl (hb hby d2_284) rfl (flt hc284_38).2.1 (by decide) (by decide) ?_
                      show Steps p.tables e below (s₁.setTop (mkF m 289 #[.val (.ref r0), .val (.int p1), .val (.int p2), .val (.int v1), .val (.int (4 : Int32)), .val (.int v29), .val (.int v31), .val (.int v33), .val (.int v37), .val (.int (65536 : Int32))] [])) _
                      refine XS.iload X0.here hx rfl (hb hby d2_289) rfl ?_
                      show Steps p.tables e below (s₁.setTop (mkF m 291 #[.val (.ref r0), .val (.int p1), .val (.int p2), .val (.int v1), .val (.int (4 : Int32)), .val (.int v29), .val (.int v31), .val (.int v33), .val (.int v37), .val (.int (65536 : Int32))] [(.int v37)])) _
                      refine X0.ldcInt hx hown (mvT hZ (hw _ (List.mem_of_getElem? (i := 9) rfl))) (g := (mkF m 291 #[.val (.ref r0), .val (.int p1), .val (.int p2), .val (.int v1), .val (.int (4 : Int32)), .val (.int v29), .val (.int v31), .val (.int v33), .val (.int v37), .val (.int (65536 : Int32))] [(.int v37)])) rfl (hb hby d2_291) _ ?_
                      show Steps p.tables e below (s₁.setTop (mkF m 293 #[.val (.ref r0), .val (.int p1), .val (.int p2), .val (.int v1), .val (.int (4 : Int32)), .val (.int v29), .val (.int v31), .val (.int v33), .val (.int v37), .val (.int (65536 : Int32))] [(.int (55296 : Int32)), (.int v37)])) _
                      refine XS.icmpNo X0.here hx rfl (hb hby d2_293) rfl (flt (by have y0 := hc284_38; simp only [Int32.lt_iff_toInt_lt, ← Int32.toInt_inj, Int32.reduceToInt] at y0 ⊢; omega : ¬ (v37 < (55296 : Int32)))).1 ?_
                      show Steps p.tables e below (s₁.setTop (mkF m 296 #[.val (.ref r0), .val (.int p1), .val (.int p2), .val (.int v1), .val (.int (4 : Int32)), .val (.int v29), .val (.int v31), .val (.int v33), .val (.int v37), .val (.int (65536 : Int32))] [])) _
                      refine XS.iload X0.here hx rfl (hb hby d2_296) rfl ?_
                      show Steps p.tables e below (s₁.setTop (mkF m 298 #[.val (.ref r0), .val (.int p1), .val (.int p2), .val (.int v1), .val (.int (4 : Int32)), .val (.int v29), .val (.int v31), .val (.int v33), .val (.int v37), .val (.int (65536 : Int32))] [(.int v37)])) _
                      refine X0.ldcInt hx hown (mvT hZ (hw _ (List.mem_of_getElem? (i := 12) rfl))) (g := (mkF m 298 #[.val (.ref r0), .val (.int p1), .val (.int p2), .val (.int v1), .val (.int (4 : Int32)), .val (.int v29), .val (.int v31), .val (.int v33), .val (.int v37), .val (.int (65536 : Int32))] [(.int v37)])) rfl (hb hby d2_298) _ ?_
                      show Steps p.tables e below (s₁.setTop (mkF m 300 #[.val (.ref r0), .val (.int p1), .val (.int p2), .val (.int v1), .val (.int (4 : Int32)), .val (.int v29), .val (.int v31), .val (.int v33), .val (.int v37), .val (.int (65536 : Int32))] [(.int (57343 : Int32)), (.int v37)])) _
                      refine XS.icmpYes X0.here hx rfl (pc0 := 300) (pc' := 305) rfl (hb hby d2_300) rfl (tlt (by have y0 := hc284_38; simp only [Int32.lt_iff_toInt_lt, ← Int32.toInt_inj, Int32.reduceToInt] at y0 ⊢; omega : (57343 : Int32) < v37)).2.2.1 (by decide) (by decide) ?_
                      show Steps p.tables e below (s₁.setTop (mkF m 305 #[.val (.ref r0), .val (.int p1), .val (.int p2), .val (.int v1), .val (.int (4 : Int32)), .val (.int v29), .val (.int v31), .val (.int v33), .val (.int v37), .val (.int (65536 : Int32))] [])) _
                      refine XS.iload X0.here hx rfl (hb hby d2_305) rfl ?_
                      show Steps p.tables e below (s₁.setTop (mkF m 307 #[.val (.ref r0), .val (.int p1), .val (.int p2), .val (.int v1), .val (.int (4 : Int32)), .val (.int v29), .val (.int v31), .val (.int v33), .val (.int v37), .val (.int (65536 : Int32))] [(.int v37)])) _
                      refine X0.ldcInt hx hown (mvT hZ (hw _ (List.mem_of_getElem? (i := 10) rfl))) (g := (mkF m 307 #[.val (.ref r0), .val (.int p1), .val (.int p2), .val (.int v1), .val (.int (4 : Int32)), .val (.int v29), .val (.int v31), .val (.int v33), .val (.int v37), .val (.int (65536 : Int32))] [(.int v37)])) rfl (hb hby d2_307) _ ?_
                      exact kt
                    refine own_go hgo148 ?_
                    by_cases hc309_39 : (1114111 : Int32) < v37
                    · have hgo149 : ∀ t, Steps p.tables e below (s₁.setTop (mkF m 313 #[.val (.ref r0), .val (.int p1), .val (.int p2), .val (.int v1), .val (.int (4 : Int32)), .val (.int v29), .val (.int v31), .val (.int v33), .val (.int v37), .val (.int (65536 : Int32))] [(.int (0 : Int32))])) t → Steps p.tables e below (s₁.setTop (mkF m 309 #[.val (.ref r0), .val (.int p1), .val (.int p2), .val (.int v1), .val (.int (4 : Int32)), .val (.int v29), .val (.int v31), .val (.int v33), .val (.int v37), .val (.int (65536 : Int32))] [(.int (1114111 : Int32)), (.int v37)])) t := by
                        intro t kt
                        show Steps p.tables e below (s₁.setTop (mkF m 309 #[.val (.ref r0), .val (.int p1), .val (.int p2), .val (.int v1), .val (.int (4 : Int32)), .val (.int v29), .val (.int v31), .val (.int v33), .val (.int v37), .val (.int (65536 : Int32))] [(.int (1114111 : Int32)), (.int v37)])) _
                        refine XS.icmpNo X0.here hx rfl (hb hby d2_309) rfl (tlt hc309_39).2.2.2 ?_
                        show Steps p.tables e below (s₁.setTop (mkF m 312 #[.val (.ref r0), .val (.int p1), .val (.int p2), .val (.int v1), .val (.int (4 : Int32)), .val (.int v29), .val (.int v31), .val (.int v33), .val (.int v37), .val (.int (65536 : Int32))] [])) _
                        refine XS.iconst X0.here hx rfl (hb hby d2_312) ?_
                        exact kt
                      refine own_go hgo149 ?_
                      exact own_retI X0 hx Bd.returns Bd.notSynchronized (hb hby d2_313) (by decide) (by decide) (by rw [e0]; exact ⟨(by subst hv37 hv33 hv32 hv31 hv30 hv29 hv28 hv1; rw [own_r2, if_neg hc13_2, if_neg hc26_3, if_neg hc43_13, if_pos hc60_26, if_neg hc76_27, if_pos hc147_34, if_pos hc159_35, if_pos hc171_36, if_neg hc284_38, if_pos hc309_39]), N0, rfl⟩)
                    · have hgo150 : ∀ t, Steps p.tables e below (s₁.setTop (mkF m 316 #[.val (.ref r0), .val (.int p1), .val (.int p2), .val (.int v1), .val (.int (4 : Int32)), .val (.int v29), .val (.int v31), .val (.int v33), .val (.int v37), .val (.int (65536 : Int32))] [(.int (4 : Int32))])) t → Steps p.tables e below (s₁.setTop (mkF m 309 #[.val (.ref r0), .val (.int p1), .val (.int p2), .val (.int v1), .val (.int (4 : Int32)), .val (.int v29), .val (.int v31), .val (.int v33), .val (.int v37), .val (.int (65536 : Int32))] [(.int (1114111 : Int32)), (.int v37)])) t := by
                        intro t kt
                        show Steps p.tables e below (s₁.setTop (mkF m 309 #[.val (.ref r0), .val (.int p1), .val (.int p2), .val (.int v1), .val (.int (4 : Int32)), .val (.int v29), .val (.int v31), .val (.int v33), .val (.int v37), .val (.int (65536 : Int32))] [(.int (1114111 : Int32)), (.int v37)])) _
                        refine XS.icmpYes X0.here hx rfl (pc0 := 309) (pc' := 314) rfl (hb hby d2_309) rfl (flt hc309_39).2.2.2 (by decide) (by decide) ?_
                        show Steps p.tables e below (s₁.setTop (mkF m 314 #[.val (.ref r0), .val (.int p1), .val (.int p2), .val (.int v1), .val (.int (4 : Int32)), .val (.int v29), .val (.int v31), .val (.int v33), .val (.int v37), .val (.int (65536 : Int32))] [])) _
                        refine XS.iload X0.here hx rfl (hb hby d2_314) rfl ?_
                        exact kt
                      refine own_go hgo150 ?_
                      exact own_retI X0 hx Bd.returns Bd.notSynchronized (hb hby d2_316) (by decide) (by decide) (by rw [e0]; exact ⟨(by subst hv37 hv33 hv32 hv31 hv30 hv29 hv28 hv1; rw [own_r2, if_neg hc13_2, if_neg hc26_3, if_neg hc43_13, if_pos hc60_26, if_neg hc76_27, if_pos hc147_34, if_pos hc159_35, if_pos hc171_36, if_neg hc284_38, if_neg hc309_39]), N0, rfl⟩)
                · have hgo151 : ∀ t, Steps p.tables e below (s₁.setTop (mkF m 175 #[.val (.ref r0), .val (.int p1), .val (.int p2), .val (.int v1), .val (.int (4 : Int32)), .val (.int v29), .val (.int v31), .val (.int v33), .unset, .unset] [(.int (0 : Int32))])) t → Steps p.tables e below (s₁.setTop (mkF m 171 #[.val (.ref r0), .val (.int p1), .val (.int p2), .val (.int v1), .val (.int (4 : Int32)), .val (.int v29), .val (.int v31), .val (.int v33), .unset, .unset] [(.int (128 : Int32)), (.int (v33 &&& (192 : Int32)))])) t := by
                    intro t kt
                    show Steps p.tables e below (s₁.setTop (mkF m 171 #[.val (.ref r0), .val (.int p1), .val (.int p2), .val (.int v1), .val (.int (4 : Int32)), .val (.int v29), .val (.int v31), .val (.int v33), .unset, .unset] [(.int (128 : Int32)), (.int (v33 &&& (192 : Int32)))])) _
                    refine XS.icmpNo X0.here hx rfl (hb hby d2_171) rfl (feq hc171_36).1 ?_
                    show Steps p.tables e below (s₁.setTop (mkF m 174 #[.val (.ref r0), .val (.int p1), .val (.int p2), .val (.int v1), .val (.int (4 : Int32)), .val (.int v29), .val (.int v31), .val (.int v33), .unset, .unset] [])) _
                    refine XS.iconst X0.here hx rfl (hb hby d2_174) ?_
                    exact kt
                  refine own_go hgo151 ?_
                  exact own_retI X0 hx Bd.returns Bd.notSynchronized (hb hby d2_175) (by decide) (by decide) (by rw [e0]; exact ⟨(by subst hv33 hv32 hv31 hv30 hv29 hv28 hv1; rw [own_r2, if_neg hc13_2, if_neg hc26_3, if_neg hc43_13, if_pos hc60_26, if_neg hc76_27, if_pos hc147_34, if_pos hc159_35, if_neg hc171_36]), N0, rfl⟩)
              · have hgo152 : ∀ t, Steps p.tables e below (s₁.setTop (mkF m 175 #[.val (.ref r0), .val (.int p1), .val (.int p2), .val (.int v1), .val (.int (4 : Int32)), .val (.int v29), .val (.int v31), .val (.int v33), .unset, .unset] [(.int (0 : Int32))])) t → Steps p.tables e below (s₁.setTop (mkF m 159 #[.val (.ref r0), .val (.int p1), .val (.int p2), .val (.int v1), .val (.int (4 : Int32)), .val (.int v29), .val (.int v31), .val (.int v33), .unset, .unset] [(.int (128 : Int32)), (.int (v31 &&& (192 : Int32)))])) t := by
                  intro t kt
                  show Steps p.tables e below (s₁.setTop (mkF m 159 #[.val (.ref r0), .val (.int p1), .val (.int p2), .val (.int v1), .val (.int (4 : Int32)), .val (.int v29), .val (.int v31), .val (.int v33), .unset, .unset] [(.int (128 : Int32)), (.int (v31 &&& (192 : Int32)))])) _
                  refine XS.icmpYes X0.here hx rfl (pc0 := 159) (pc' := 174) rfl (hb hby d2_159) rfl (feq hc159_35).2 (by decide) (by decide) ?_
                  show Steps p.tables e below (s₁.setTop (mkF m 174 #[.val (.ref r0), .val (.int p1), .val (.int p2), .val (.int v1), .val (.int (4 : Int32)), .val (.int v29), .val (.int v31), .val (.int v33), .unset, .unset] [])) _
                  refine XS.iconst X0.here hx rfl (hb hby d2_174) ?_
                  exact kt
                refine own_go hgo152 ?_
                exact own_retI X0 hx Bd.returns Bd.notSynchronized (hb hby d2_175) (by decide) (by decide) (by rw [e0]; exact ⟨(by subst hv33 hv32 hv31 hv30 hv29 hv28 hv1; rw [own_r2, if_neg hc13_2, if_neg hc26_3, if_neg hc43_13, if_pos hc60_26, if_neg hc76_27, if_pos hc147_34, if_neg hc159_35]), N0, rfl⟩)
            · have hgo153 : ∀ t, Steps p.tables e below (s₁.setTop (mkF m 175 #[.val (.ref r0), .val (.int p1), .val (.int p2), .val (.int v1), .val (.int (4 : Int32)), .val (.int v29), .val (.int v31), .val (.int v33), .unset, .unset] [(.int (0 : Int32))])) t → Steps p.tables e below (s₁.setTop (mkF m 147 #[.val (.ref r0), .val (.int p1), .val (.int p2), .val (.int v1), .val (.int (4 : Int32)), .val (.int v29), .val (.int v31), .val (.int v33), .unset, .unset] [(.int (128 : Int32)), (.int (v29 &&& (192 : Int32)))])) t := by
                intro t kt
                show Steps p.tables e below (s₁.setTop (mkF m 147 #[.val (.ref r0), .val (.int p1), .val (.int p2), .val (.int v1), .val (.int (4 : Int32)), .val (.int v29), .val (.int v31), .val (.int v33), .unset, .unset] [(.int (128 : Int32)), (.int (v29 &&& (192 : Int32)))])) _
                refine XS.icmpYes X0.here hx rfl (pc0 := 147) (pc' := 174) rfl (hb hby d2_147) rfl (feq hc147_34).2 (by decide) (by decide) ?_
                show Steps p.tables e below (s₁.setTop (mkF m 174 #[.val (.ref r0), .val (.int p1), .val (.int p2), .val (.int v1), .val (.int (4 : Int32)), .val (.int v29), .val (.int v31), .val (.int v33), .unset, .unset] [])) _
                refine XS.iconst X0.here hx rfl (hb hby d2_174) ?_
                exact kt
              refine own_go hgo153 ?_
              exact own_retI X0 hx Bd.returns Bd.notSynchronized (hb hby d2_175) (by decide) (by decide) (by rw [e0]; exact ⟨(by subst hv33 hv32 hv31 hv30 hv29 hv28 hv1; rw [own_r2, if_neg hc13_2, if_neg hc26_3, if_neg hc43_13, if_pos hc60_26, if_neg hc76_27, if_neg hc147_34]), N0, rfl⟩)
        · have hgo154 : ∀ t, Steps p.tables e below (s₁.setTop (mkF m 70 #[.val (.ref r0), .val (.int p1), .val (.int p2), .val (.int v1), .unset, .unset, .unset, .unset, .unset, .unset] [(.int (0 : Int32))])) t → Steps p.tables e below (s₁.setTop (mkF m 60 #[.val (.ref r0), .val (.int p1), .val (.int p2), .val (.int v1), .unset, .unset, .unset, .unset, .unset, .unset] [(.int (240 : Int32)), (.int (v1 &&& (248 : Int32)))])) t := by
            intro t kt
            show Steps p.tables e below (s₁.setTop (mkF m 60 #[.val (.ref r0), .val (.int p1), .val (.int p2), .val (.int v1), .unset, .unset, .unset, .unset, .unset, .unset] [(.int (240 : Int32)), (.int (v1 &&& (248 : Int32)))])) _
            refine XS.icmpYes X0.here hx rfl (pc0 := 60) (pc' := 69) rfl (hb hby d2_60) rfl (feq hc60_26).2 (by decide) (by decide) ?_
            show Steps p.tables e below (s₁.setTop (mkF m 69 #[.val (.ref r0), .val (.int p1), .val (.int p2), .val (.int v1), .unset, .unset, .unset, .unset, .unset, .unset] [])) _
            refine XS.iconst X0.here hx rfl (hb hby d2_69) ?_
            exact kt
          refine own_go hgo154 ?_
          exact own_retI X0 hx Bd.returns Bd.notSynchronized (hb hby d2_70) (by decide) (by decide) (by rw [e0]; exact ⟨(by subst hv1; rw [own_r2, if_neg hc13_2, if_neg hc26_3, if_neg hc43_13, if_neg hc60_26]), N0, rfl⟩)
theorem own_ti {x : Int32} (h : x.toBitVec.toNat < 2147483648) : x.toInt = (x.toBitVec.toNat : Int) := by
  show x.toBitVec.toInt = _
  rw [BitVec.toInt_eq_toNat_cond, if_pos (by omega)]
theorem own_tn {x : Int32} (h : 0 ≤ x.toInt) : x.toInt = (x.toBitVec.toNat : Int) ∧ x.toBitVec.toNat < 2147483648 := by
  have e : x.toInt = x.toBitVec.toInt := rfl
  have c := BitVec.toInt_eq_toNat_cond x.toBitVec
  have l := x.toBitVec.isLt
  rw [e] at h ⊢
  rw [c] at h ⊢
  split at h
  · rename_i q
    rw [if_pos q]; omega
  · omega
theorem own_andn (x y : Int32) : (x &&& y).toBitVec.toNat = x.toBitVec.toNat &&& y.toBitVec.toNat := by rw [Int32.toBitVec_and, BitVec.toNat_and]
theorem own_orn (x y : Int32) : (x ||| y).toBitVec.toNat = x.toBitVec.toNat ||| y.toBitVec.toNat := by rw [Int32.toBitVec_or, BitVec.toNat_or]
theorem own_shln {x k : Int32} {n : Nat} (hk : (k.toBitVec.smod 32).toNat = n) (h : x.toBitVec.toNat * 2 ^ n < 2 ^ 32) : (x <<< k).toBitVec.toNat = x.toBitVec.toNat * 2 ^ n := by
  rw [Int32.toBitVec_shiftLeft, BitVec.shiftLeft_eq', BitVec.toNat_shiftLeft, hk, Nat.shiftLeft_eq, Nat.mod_eq_of_lt h]
theorem own_mask {x m : Int32} {k : Nat} (hm : m.toBitVec.toNat = 2 ^ k - 1) : (x &&& m).toBitVec.toNat = x.toBitVec.toNat % 2 ^ k := by
  rw [own_andn, hm, Nat.and_two_pow_sub_one_eq_mod]
theorem own_oradd {a b k : Nat} (hb : b < 2 ^ k) : (a * 2 ^ k) ||| b = a * 2 ^ k + b := by
  rw [Nat.mul_comm, ← Nat.two_pow_add_eq_or_of_lt hb]
theorem own_ltn {x y : Int32} (hx : x.toBitVec.toNat < 2147483648) (hy : y.toBitVec.toNat < 2147483648) : x < y ↔ x.toBitVec.toNat < y.toBitVec.toNat := by
  rw [Int32.lt_iff_toInt_lt, own_ti hx, own_ti hy]; omega
theorem own_eqn {x y : Int32} : x = y ↔ x.toBitVec.toNat = y.toBitVec.toNat := by
  rw [← Int32.toBitVec_inj, BitVec.toNat_inj]
theorem own_byte (x : Int32) : (x &&& (255 : Int32)).toBitVec.toNat < 256 := by
  rw [own_mask (k := 8) rfl]; exact Nat.mod_lt _ (by decide)
theorem own_all {P : Nat → Prop} [DecidablePred P] (h : ∀ k : Fin 256, P k.val) {n : Nat} (hn : n < 256) : P n := h ⟨n, hn⟩
theorem own_m128 {n : Nat} (h : n < 256) : (n &&& 128 = 0) ↔ n < 128 := own_all (P := fun n => (n &&& 128 = 0) ↔ n < 128) (by decide +kernel) h
theorem own_m224 {n : Nat} (h : n < 256) : (n &&& 224 = 192) ↔ (192 ≤ n ∧ n ≤ 223) := own_all (P := fun n => (n &&& 224 = 192) ↔ (192 ≤ n ∧ n ≤ 223)) (by decide +kernel) h
theorem own_m240 {n : Nat} (h : n < 256) : (n &&& 240 = 224) ↔ (224 ≤ n ∧ n ≤ 239) := own_all (P := fun n => (n &&& 240 = 224) ↔ (224 ≤ n ∧ n ≤ 239)) (by decide +kernel) h
theorem own_m248 {n : Nat} (h : n < 256) : (n &&& 248 = 240) ↔ (240 ≤ n ∧ n ≤ 247) := own_all (P := fun n => (n &&& 248 = 240) ↔ (240 ≤ n ∧ n ≤ 247)) (by decide +kernel) h
theorem own_m192 {n : Nat} (h : n < 256) : (n &&& 192 = 128) ↔ (128 ≤ n ∧ n ≤ 191) := own_all (P := fun n => (n &&& 192 = 128) ↔ (128 ≤ n ∧ n ≤ 191)) (by decide +kernel) h
theorem own_cp2 {a b : Int32} (ha : a.toBitVec.toNat < 256) (hb : b.toBitVec.toNat < 256) : (((a &&& (31 : Int32)) <<< ((6 : Int32) &&& 31)) ||| (b &&& (63 : Int32))).toBitVec.toNat = (a.toBitVec.toNat % 32) * 64 + b.toBitVec.toNat % 64 := by
  have e1 := own_mask (x := a) (m := 31) (k := 5) rfl
  have e2 := own_mask (x := b) (m := 63) (k := 6) rfl
  rw [own_orn, own_shln (n := 6) (by decide) (by rw [e1]; omega), e1, e2, own_oradd (Nat.mod_lt _ (by decide))]
theorem own_cp3 {a b c : Int32} (ha : a.toBitVec.toNat < 256) (hb : b.toBitVec.toNat < 256) : ((((a &&& (15 : Int32)) <<< ((12 : Int32) &&& 31)) ||| ((b &&& (63 : Int32)) <<< ((6 : Int32) &&& 31))) ||| (c &&& (63 : Int32))).toBitVec.toNat = ((a.toBitVec.toNat % 16) * 64 + b.toBitVec.toNat % 64) * 64 + c.toBitVec.toNat % 64 := by
  have e1 := own_mask (x := a) (m := 15) (k := 4) rfl
  have e2 := own_mask (x := b) (m := 63) (k := 6) rfl
  have e3 := own_mask (x := c) (m := 63) (k := 6) rfl
  rw [own_orn, own_orn, own_shln (n := 12) (by decide) (by rw [e1]; omega), own_shln (n := 6) (by decide) (by rw [e2]; omega), e1, e2, e3, own_oradd (k := 12) (by omega), show a.toBitVec.toNat % 2 ^ 4 * 2 ^ 12 + b.toBitVec.toNat % 2 ^ 6 * 2 ^ 6 = (a.toBitVec.toNat % 16 * 64 + b.toBitVec.toNat % 64) * 2 ^ 6 by omega, own_oradd (Nat.mod_lt _ (by decide))]
theorem own_cp4 {a b c d : Int32} (ha : a.toBitVec.toNat < 256) (hb : b.toBitVec.toNat < 256) (hc : c.toBitVec.toNat < 256) : (((((a &&& (7 : Int32)) <<< ((18 : Int32) &&& 31)) ||| ((b &&& (63 : Int32)) <<< ((12 : Int32) &&& 31))) ||| ((c &&& (63 : Int32)) <<< ((6 : Int32) &&& 31))) ||| (d &&& (63 : Int32))).toBitVec.toNat = (((a.toBitVec.toNat % 8) * 64 + b.toBitVec.toNat % 64) * 64 + c.toBitVec.toNat % 64) * 64 + d.toBitVec.toNat % 64 := by
  have e1 := own_mask (x := a) (m := 7) (k := 3) rfl
  have e2 := own_mask (x := b) (m := 63) (k := 6) rfl
  have e3 := own_mask (x := c) (m := 63) (k := 6) rfl
  have e4 := own_mask (x := d) (m := 63) (k := 6) rfl
  rw [own_orn, own_orn, own_orn, own_shln (n := 18) (by decide) (by rw [e1]; omega), own_shln (n := 12) (by decide) (by rw [e2]; omega), own_shln (n := 6) (by decide) (by rw [e3]; omega), e1, e2, e3, e4, own_oradd (k := 18) (by omega), show a.toBitVec.toNat % 2 ^ 3 * 2 ^ 18 + b.toBitVec.toNat % 2 ^ 6 * 2 ^ 12 = (a.toBitVec.toNat % 8 * 64 + b.toBitVec.toNat % 64) * 2 ^ 12 by omega, own_oradd (k := 12) (by omega), show (a.toBitVec.toNat % 8 * 64 + b.toBitVec.toNat % 64) * 2 ^ 12 + c.toBitVec.toNat % 2 ^ 6 * 2 ^ 6 = ((a.toBitVec.toNat % 8 * 64 + b.toBitVec.toNat % 64) * 64 + c.toBitVec.toNat % 64) * 2 ^ 6 by omega, own_oradd (Nat.mod_lt _ (by decide))]
set_option maxHeartbeats 8000000 in
theorem own_same (p1 p2 : Int32) (f : Nat → Int32) : own_r1 p1 p2 f = own_r2 p1 p2 f := by
  have g0 := own_byte (f p1.toNatClampNeg)
  have g1 := own_byte (f (p1 + (1 : Int32)).toNatClampNeg)
  have g2 := own_byte (f (p1 + (2 : Int32)).toNatClampNeg)
  have g3 := own_byte (f (p1 + (3 : Int32)).toNatClampNeg)
  rw [own_r1, own_r2, show p1 + (2 : Int32) + (1 : Int32) = p1 + (3 : Int32) by rw [Int32.add_assoc]; rfl]
  generalize f p1.toNatClampNeg &&& (255 : Int32) = a at *
  generalize f (p1 + (1 : Int32)).toNatClampNeg &&& (255 : Int32) = b at *
  generalize f (p1 + (2 : Int32)).toNatClampNeg &&& (255 : Int32) = c at *
  generalize f (p1 + (3 : Int32)).toNatClampNeg &&& (255 : Int32) = d at *
  generalize p2 - p1 = z
  have c2 := own_cp2 g0 g1
  have c3 := own_cp3 (c := c) g0 g1
  have c4 := own_cp4 (d := d) g0 g1 g2
  generalize (a &&& (31 : Int32)) <<< ((6 : Int32) &&& 31) ||| b &&& (63 : Int32) = x2 at *
  generalize (a &&& (15 : Int32)) <<< ((12 : Int32) &&& 31) ||| (b &&& (63 : Int32)) <<< ((6 : Int32) &&& 31) ||| c &&& (63 : Int32) = x3 at *
  generalize (a &&& (7 : Int32)) <<< ((18 : Int32) &&& 31) ||| (b &&& (63 : Int32)) <<< ((12 : Int32) &&& 31) ||| (c &&& (63 : Int32)) <<< ((6 : Int32) &&& 31) ||| d &&& (63 : Int32) = x4 at *
  have lt : ∀ {x : Int32} {k : Nat}, x.toBitVec.toNat < 2147483648 → k < 2147483648 → ((x < Int32.ofNat k) ↔ x.toBitVec.toNat < k) := fun {x k} h1 h2 => by
    have e : (Int32.ofNat k).toBitVec.toNat = k := by show k % 2 ^ 32 = k; omega
    rw [own_ltn h1 (by rw [e]; exact h2), e]
  have gt : ∀ {x : Int32} {k : Nat}, x.toBitVec.toNat < 2147483648 → k < 2147483648 → ((Int32.ofNat k < x) ↔ k < x.toBitVec.toNat) := fun {x k} h1 h2 => by
    have e : (Int32.ofNat k).toBitVec.toNat = k := by show k % 2 ^ 32 = k; omega
    rw [own_ltn (by rw [e]; exact h2) h1, e]
  have eq : ∀ {x : Int32} {k : Nat}, k < 2147483648 → ((x = Int32.ofNat k) ↔ x.toBitVec.toNat = k) := fun {x k} h2 => by
    have e : (Int32.ofNat k).toBitVec.toNat = k := by show k % 2 ^ 32 = k; omega
    rw [own_eqn, e]
  have a1 : (a < (128 : Int32)) ↔ a.toBitVec.toNat < 128 := lt (by omega) (by decide)
  have a2 : (a < (194 : Int32)) ↔ a.toBitVec.toNat < 194 := lt (by omega) (by decide)
  have a3 : ((223 : Int32) < a) ↔ 223 < a.toBitVec.toNat := gt (by omega) (by decide)
  have a4 : ((239 : Int32) < a) ↔ 239 < a.toBitVec.toNat := gt (by omega) (by decide)
  have a5 : ((244 : Int32) < a) ↔ 244 < a.toBitVec.toNat := gt (by omega) (by decide)
  have a6 : (a = (240 : Int32)) ↔ a.toBitVec.toNat = 240 := eq (by decide)
  have a7 : (a = (244 : Int32)) ↔ a.toBitVec.toNat = 244 := eq (by decide)
  have a8 : (a = (224 : Int32)) ↔ a.toBitVec.toNat = 224 := eq (by decide)
  have a9 : (a = (237 : Int32)) ↔ a.toBitVec.toNat = 237 := eq (by decide)
  have b1 : (b < (128 : Int32)) ↔ b.toBitVec.toNat < 128 := lt (by omega) (by decide)
  have b2 : (b < (144 : Int32)) ↔ b.toBitVec.toNat < 144 := lt (by omega) (by decide)
  have b3 : (b < (160 : Int32)) ↔ b.toBitVec.toNat < 160 := lt (by omega) (by decide)
  have b4 : ((191 : Int32) < b) ↔ 191 < b.toBitVec.toNat := gt (by omega) (by decide)
  have b5 : ((143 : Int32) < b) ↔ 143 < b.toBitVec.toNat := gt (by omega) (by decide)
  have b6 : ((159 : Int32) < b) ↔ 159 < b.toBitVec.toNat := gt (by omega) (by decide)
  have k1 : (c < (128 : Int32)) ↔ c.toBitVec.toNat < 128 := lt (by omega) (by decide)
  have k2 : ((191 : Int32) < c) ↔ 191 < c.toBitVec.toNat := gt (by omega) (by decide)
  have d1 : (d < (128 : Int32)) ↔ d.toBitVec.toNat < 128 := lt (by omega) (by decide)
  have d2 : ((191 : Int32) < d) ↔ 191 < d.toBitVec.toNat := gt (by omega) (by decide)
  have m1 : (a &&& (128 : Int32) = (0 : Int32)) ↔ a.toBitVec.toNat < 128 := by rw [own_eqn, own_andn]; exact own_m128 g0
  have m2 : (a &&& (224 : Int32) = (192 : Int32)) ↔ (192 ≤ a.toBitVec.toNat ∧ a.toBitVec.toNat ≤ 223) := by rw [own_eqn, own_andn]; exact own_m224 g0
  have m3 : (a &&& (240 : Int32) = (224 : Int32)) ↔ (224 ≤ a.toBitVec.toNat ∧ a.toBitVec.toNat ≤ 239) := by rw [own_eqn, own_andn]; exact own_m240 g0
  have m4 : (a &&& (248 : Int32) = (240 : Int32)) ↔ (240 ≤ a.toBitVec.toNat ∧ a.toBitVec.toNat ≤ 247) := by rw [own_eqn, own_andn]; exact own_m248 g0
  have m5 : (b &&& (192 : Int32) = (128 : Int32)) ↔ (128 ≤ b.toBitVec.toNat ∧ b.toBitVec.toNat ≤ 191) := by rw [own_eqn, own_andn]; exact own_m192 g1
  have m6 : (c &&& (192 : Int32) = (128 : Int32)) ↔ (128 ≤ c.toBitVec.toNat ∧ c.toBitVec.toNat ≤ 191) := by rw [own_eqn, own_andn]; exact own_m192 g2
  have m7 : (d &&& (192 : Int32) = (128 : Int32)) ↔ (128 ≤ d.toBitVec.toNat ∧ d.toBitVec.toNat ≤ 191) := by rw [own_eqn, own_andn]; exact own_m192 g3
  have x21 : (x2 < (128 : Int32)) ↔ x2.toBitVec.toNat < 128 := lt (by omega) (by decide)
  have x22 : (x2 < (55296 : Int32)) ↔ x2.toBitVec.toNat < 55296 := lt (by omega) (by decide)
  have x31 : (x3 < (2048 : Int32)) ↔ x3.toBitVec.toNat < 2048 := lt (by omega) (by decide)
  have x32 : (x3 < (55296 : Int32)) ↔ x3.toBitVec.toNat < 55296 := lt (by omega) (by decide)
  have x33 : ((57343 : Int32) < x3) ↔ 57343 < x3.toBitVec.toNat := gt (by omega) (by decide)
  have x34 : ((1114111 : Int32) < x3) ↔ 1114111 < x3.toBitVec.toNat := gt (by omega) (by decide)
  have x41 : (x4 < (65536 : Int32)) ↔ x4.toBitVec.toNat < 65536 := lt (by omega) (by decide)
  have x42 : ((1114111 : Int32) < x4) ↔ 1114111 < x4.toBitVec.toNat := gt (by omega) (by decide)
  by_cases q1 : a.toBitVec.toNat < 128
  · rw [if_pos (a1.mpr q1), if_pos (m1.mpr q1)]
  · rw [if_neg (fun r => q1 (a1.mp r)), if_neg (fun r => q1 (m1.mp r))]
    by_cases q2 : a.toBitVec.toNat < 194
    · rw [if_pos (a2.mpr q2)]
      by_cases q3 : 192 ≤ a.toBitVec.toNat
      · rw [if_pos (m2.mpr (by omega)), if_pos (x21.mpr (by omega))]
        simp only [ite_self]
      · rw [if_neg (show ¬ (a &&& (224 : Int32) = (192 : Int32)) from fun r => by have := m2.mp r; omega), if_neg (show ¬ (a &&& (240 : Int32) = (224 : Int32)) from fun r => by have := m3.mp r; omega), if_neg (show ¬ (a &&& (248 : Int32) = (240 : Int32)) from fun r => by have := m4.mp r; omega)]
    · rw [if_neg (fun r => q2 (a2.mp r))]
      by_cases q3 : 223 < a.toBitVec.toNat
      · rw [if_pos (a3.mpr q3), if_neg (show ¬ (a &&& (224 : Int32) = (192 : Int32)) from fun r => by have := m2.mp r; omega)]
        by_cases q4 : 239 < a.toBitVec.toNat
        · rw [if_pos (a4.mpr q4), if_neg (show ¬ (a &&& (240 : Int32) = (224 : Int32)) from fun r => by have := m3.mp r; omega)]
          by_cases q5 : 244 < a.toBitVec.toNat
          · rw [if_pos (a5.mpr q5)]
            by_cases q6 : a.toBitVec.toNat ≤ 247
            · rw [if_pos (m4.mpr (by omega)), if_neg (show ¬ (x4 < (65536 : Int32)) from fun r => by have := x41.mp r; omega), if_pos (x42.mpr (by omega))]
              simp only [ite_self]
            · rw [if_neg (show ¬ (a &&& (248 : Int32) = (240 : Int32)) from fun r => by have := m4.mp r; omega)]
          · rw [if_neg (fun r => q5 (a5.mp r)), if_pos (m4.mpr (by omega))]
            by_cases qz : z < (4 : Int32)
            · rw [if_pos qz, if_pos qz]
            · rw [if_neg qz, if_neg qz]
              simp only [a6, a7]
              by_cases w1 : a.toBitVec.toNat = 240
              · simp only [w1, if_true, b2, b4, k1, k2, d1, d2, m5, m6, m7, x41, x42, if_neg (show ¬ ((240 : Nat) = 244) by decide)]
                clear a1 a2 a3 a4 a5 a6 a7 a8 a9 b1 b2 b3 b4 b5 b6 k1 k2 d1 d2 m1 m2 m3 m4 m5 m6 m7 x21 x22 x31 x32 x33 x34 x41 x42 lt gt eq
                (repeat' split) <;> first | rfl | (exfalso; omega)
              · by_cases w2 : a.toBitVec.toNat = 244
                · simp only [w2, if_true, if_neg (show ¬ ((244 : Nat) = 240) by decide), b1, b5, k1, k2, d1, d2, m5, m6, m7, x41, x42]
                  clear a1 a2 a3 a4 a5 a6 a7 a8 a9 b1 b2 b3 b4 b5 b6 k1 k2 d1 d2 m1 m2 m3 m4 m5 m6 m7 x21 x22 x31 x32 x33 x34 x41 x42 lt gt eq
                  (repeat' split) <;> first | rfl | (exfalso; omega)
                · simp only [if_neg w1, if_neg w2, b1, b4, k1, k2, d1, d2, m5, m6, m7, x41, x42]
                  clear a1 a2 a3 a4 a5 a6 a7 a8 a9 b1 b2 b3 b4 b5 b6 k1 k2 d1 d2 m1 m2 m3 m4 m5 m6 m7 x21 x22 x31 x32 x33 x34 x41 x42 lt gt eq
                  (repeat' split) <;> first | rfl | (exfalso; omega)
        · rw [if_neg (fun r => q4 (a4.mp r)), if_pos (m3.mpr (by omega))]
          by_cases qz : z < (3 : Int32)
          · rw [if_pos qz, if_pos qz]
          · rw [if_neg qz, if_neg qz]
            simp only [a8, a9]
            by_cases w1 : a.toBitVec.toNat = 224
            · simp only [w1, if_true, b3, b4, k1, k2, m5, m6, x31, x32, x33, x34, if_neg (show ¬ ((224 : Nat) = 237) by decide)]
              clear a1 a2 a3 a4 a5 a6 a7 a8 a9 b1 b2 b3 b4 b5 b6 k1 k2 d1 d2 m1 m2 m3 m4 m5 m6 m7 x21 x22 x31 x32 x33 x34 x41 x42 lt gt eq
              (repeat' split) <;> first | rfl | (exfalso; omega)
            · by_cases w2 : a.toBitVec.toNat = 237
              · simp only [w2, if_true, if_neg (show ¬ ((237 : Nat) = 224) by decide), b1, b6, k1, k2, m5, m6, x31, x32, x33, x34]
                clear a1 a2 a3 a4 a5 a6 a7 a8 a9 b1 b2 b3 b4 b5 b6 k1 k2 d1 d2 m1 m2 m3 m4 m5 m6 m7 x21 x22 x31 x32 x33 x34 x41 x42 lt gt eq
                (repeat' split) <;> first | rfl | (exfalso; omega)
              · simp only [if_neg w1, if_neg w2, b1, b4, k1, k2, m5, m6, x31, x32, x33, x34]
                clear a1 a2 a3 a4 a5 a6 a7 a8 a9 b1 b2 b3 b4 b5 b6 k1 k2 d1 d2 m1 m2 m3 m4 m5 m6 m7 x21 x22 x31 x32 x33 x34 x41 x42 lt gt eq
                (repeat' split) <;> first | rfl | (exfalso; omega)
      · rw [if_neg (fun r => q3 (a3.mp r)), if_pos (m2.mpr (by omega))]
        by_cases qz : z < (2 : Int32)
        · rw [if_pos qz, if_pos qz]
        · rw [if_neg qz, if_neg qz, if_neg (show ¬ (x2 < (128 : Int32)) from fun r => by have := x21.mp r; omega), if_pos (x22.mpr (by omega))]
          simp only [b1, b4, m5]
          clear a1 a2 a3 a4 a5 a6 a7 a8 a9 b1 b2 b3 b4 b5 b6 k1 k2 d1 d2 m1 m2 m3 m4 m5 m6 m7 x21 x22 x31 x32 x33 x34 x41 x42 lt gt eq
          (repeat' split) <;> first | rfl | (exfalso; omega)
theorem own_and1 {x v : Int32} (h : v = (x &&& (1 : Int32))) : v = 0 ∨ v = 1 := by
  have e := own_mask (x := x) (m := 1) (k := 1) rfl
  rw [← h] at e
  have l : v.toBitVec.toNat = 0 ∨ v.toBitVec.toNat = 1 := by omega
  rcases l with l | l
  · exact Or.inl (Int32.toBitVec_inj.mp (BitVec.toNat_inj.mp l))
  · exact Or.inr (Int32.toBitVec_inj.mp (BitVec.toNat_inj.mp l))
theorem own_nz5 {v : Int32} (h : v = 0 ∨ v = 1) : ¬ ((5 : Int32) - v = 0) := by rcases h with q | q <;> rw [q] <;> decide
theorem pd2 : parseMethodDescriptor "([BII)I" = some ⟨[(.array .byte), .int, .int], some .int⟩ := by decide +kernel
theorem ef_0 (m : MethodId) (p0 : Int32) (p1 : Int32) (p2 : Int32) (p3 : Int32) (p4 : Int32) (p5 : Int32) : entryFrame m #[(.int p0), (.int p1), (.int p2), (.int p3), (.int p4), (.int p5)] maxLocals = mkF m 0 #[.val (.int p0), .val (.int p1), .val (.int p2), .val (.int p3), .val (.int p4), .val (.int p5), .unset, .unset, .unset, .unset] [] := by (first | (simp [entryFrame, mkF, argsToLocals, Value.category, maxLocals]; done) | rfl)
set_option maxRecDepth 65536 in
theorem own_leaf0 {p0 p1 p2 p3 p4 p5 v2 v4 v6 v8 v10 v12 v13 v14 v16 : Int32} {v1 v3 v5 v7 v9 v11 : Nat → Int32} (hv1 : v1 = (fun _ => (0 : Int32))) (hv2 : v2 = (p0.toInt8.toInt32)) (hv3 : v3 = (own_up v1 0 (nar .byte v2))) (hv4 : v4 = (p1.toInt8.toInt32)) (hv5 : v5 = (own_up v3 1 (nar .byte v4))) (hv6 : v6 = (p2.toInt8.toInt32)) (hv7 : v7 = (own_up v5 2 (nar .byte v6))) (hv8 : v8 = (p3.toInt8.toInt32)) (hv9 : v9 = (own_up v7 3 (nar .byte v8))) (hv10 : v10 = (p4.toInt8.toInt32)) (hv11 : v11 = (own_up v9 4 (nar .byte v10))) (hv12 : v12 = (p5 &&& (1 : Int32))) (hv13 : v13 = ((v12 + (1 : Int32)) + (((p5.toUInt32 >>> ((1 : Int32) &&& 31).toUInt32).toInt32) % ((5 : Int32) - v12)))) (hv14 : v14 = (own_r1 v12 v13 v11)) (hv16 : v16 = (if v14 = (own_r2 v12 v13 v11) then (1 : Int32) else (0 : Int32))) : v16 = 1 := by rw [hv16, if_pos (by rw [hv14]; exact own_same _ _ _)]
def Q0 (Z : State) (p0 : Int32) (p1 : Int32) (p2 : Int32) (p3 : Int32) (p4 : Int32) (p5 : Int32) (h0 : Heap) (n0 : Nat) (v : Option Value) (h : Heap) (L : List Loc) : Prop := v = some (.int 1) ∧ Fr n0 L
set_option maxRecDepth 65536 in
set_option maxHeartbeats 40000000 in
theorem rm0 (l : Launch) (Z : State) (a0 : Array Value) (hw : ∀ d ∈ tables_1, d.before a0 Z = true) (ws : List Jvm.Cond) (p0 : Int32) (p1 : Int32) (p2 : Int32) (p3 : Int32) (p4 : Int32) (p5 : Int32) (h0 : Heap) (n0 : Nat) (Z0 : n0 ≤ h0.size) :
    MetFree l x (head1 (Jvm.Cond.code x code maxLocals ret :: ws) room_1) (fun a U => a = #[(.int p0), (.int p1), (.int p2), (.int p3), (.int p4), (.int p5)] ∧ Z.Warmed39 U.vm ∧ U.heap = h0) (fun _ _ _ _ _ => True) (fun _ U o U' => ∃ v L, o = .returned v ∧ Q0 Z p0 p1 p2 p3 p4 p5 h0 n0 v U'.heap L ∧ FrameEnd U o U' L room_1.cells room_1.slots) := by
  refine MetFree.of_bodySF (plainFor_of_name pn1) hisR ?_
  intro p e s m args below meth c s₁ Bd hml0 hP hK
  obtain ⟨rfl, hZ, hh⟩ := hP
  have hx := Bd.exec
  have hby := Bd.bytes
  have hml : c.maxLocals = 10 := hml0
  have hown : s.vm.findClass "org/tagwright/core/Utf8SequenceLengthPinLaw" = some m.cls := findClass_of_methodNamed Bd.named
  have hnm := (name_of_methodNamed Bd.named Bd.method).1
  have X0 : Stand p l e room_1 s m #[(.int p0), (.int p1), (.int p2), (.int p3), (.int p4), (.int p5)] below meth c s₁ [] 0 0 := Stand.of_body Bd
  have e0 : s₁.heap = h0 := by rw [← hh, Bd.state]; rfl
  have N0 := Fr.nil n0
  have K0 : Keep h0 h0 [] := Keep.refl h0 _
  show own_Go p e below s (Q0 Z p0 p1 p2 p3 p4 p5 h0 n0) room_1.cells room_1.slots (s₁.setTop (entryFrame m #[(.int p0), (.int p1), (.int p2), (.int p3), (.int p4), (.int p5)] maxLocals))
  refine own_go (fun t k => castTop (ef_0 m p0 p1 p2 p3 p4 p5) k) ?_
  obtain ⟨T101, h101, k101, X101, e101, E101, A101, st101⟩ := newP X0 hx hZ (hw _ (List.mem_of_getElem? (i := 0) rfl)) e0 (g := (mkF m 1 #[.val (.int p0), .val (.int p1), .val (.int p2), .val (.int p3), .val (.int p4), .val (.int p5), .unset, .unset, .unset, .unset] [(.int (5 : Int32))])) rfl (hb hby at_1) rfl (by decide) (cap := 5) (by decide) (by decide) (by decide) (by decide)
  obtain ⟨b101, g101⟩ : ∃ z, z = h0.size := ⟨_, rfl⟩
  rw [← g101] at A101 st101
  have g_b101 : n0 ≤ b101 := Nat.le_trans Z0 (Nat.le_of_eq g101.symm)
  have sz_b101 : h0.size ≤ b101 := Nat.le_trans K0.1 (Nat.le_of_eq g101.symm)
  have Z102 : n0 ≤ h101.size := Nat.le_trans Z0 E101.1
  have K103 : Keep h0 h101 [] := K0.ext E101
  obtain ⟨v1, hv1⟩ : ∃ z : Nat → Int32, z = (fun _ => (0 : Int32)) := ⟨_, rfl⟩
  have F104 : own_AI Z h101 b101 .byte 5 v1 := by rw [hv1]; exact own_AI.new A101 rfl (by decide)
  obtain ⟨v2, hv2⟩ : ∃ z : Int32, z = (p0.toInt8.toInt32) := ⟨_, rfl⟩
  have hin7_105 : ¬ (0 : Int32) < 0 ∧ (0 : Int32).toNatClampNeg < 5 := by decide
  obtain ⟨T106, h106, X106, e106, W106, B106, st106⟩ := own_stB X101 hx hZ e101 F104 (j := (0 : Int32)) (x := v2) hin7_105 (g := (mkF m 7 #[.val (.int p0), .val (.int p1), .val (.int p2), .val (.int p3), .val (.int p4), .val (.int p5), .unset, .unset, .unset, .unset] [(.int v2), (.int (0 : Int32)), (.ref b101), (.ref b101)])) rfl rfl (hb hby at_7)
  obtain ⟨v3, hv3⟩ : ∃ z : Nat → Int32, z = (own_up v1 0 (nar .byte v2)) := ⟨_, rfl⟩
  have B106n : own_AI Z h106 b101 .byte 5 v3 := by rw [hv3]; exact B106
  have Z107 : n0 ≤ h106.size := Nat.le_trans Z102 (Keep.of_wr W106).1
  have K108 : Keep h0 h106 [] := K103.wr W106 (Or.inr sz_b101)
  have N109 := Fr.snoc X106 N0 g_b101
  obtain ⟨v4, hv4⟩ : ∃ z : Int32, z = (p1.toInt8.toInt32) := ⟨_, rfl⟩
  have hin12_110 : ¬ (1 : Int32) < 0 ∧ (1 : Int32).toNatClampNeg < 5 := by decide
  obtain ⟨T111, h111, X111, e111, W111, B111, st111⟩ := own_stB X106 hx hZ e106 B106n (j := (1 : Int32)) (x := v4) hin12_110 (g := (mkF m 12 #[.val (.int p0), .val (.int p1), .val (.int p2), .val (.int p3), .val (.int p4), .val (.int p5), .unset, .unset, .unset, .unset] [(.int v4), (.int (1 : Int32)), (.ref b101), (.ref b101)])) rfl rfl (hb hby at_12)
  obtain ⟨v5, hv5⟩ : ∃ z : Nat → Int32, z = (own_up v3 1 (nar .byte v4)) := ⟨_, rfl⟩
  have B111n : own_AI Z h111 b101 .byte 5 v5 := by rw [hv5]; exact B111
  have Z112 : n0 ≤ h111.size := Nat.le_trans Z107 (Keep.of_wr W111).1
  have K113 : Keep h0 h111 [] := K108.wr W111 (Or.inr sz_b101)
  have N114 := Fr.snoc X111 N109 g_b101
  obtain ⟨v6, hv6⟩ : ∃ z : Int32, z = (p2.toInt8.toInt32) := ⟨_, rfl⟩
  have hin17_115 : ¬ (2 : Int32) < 0 ∧ (2 : Int32).toNatClampNeg < 5 := by decide
  obtain ⟨T116, h116, X116, e116, W116, B116, st116⟩ := own_stB X111 hx hZ e111 B111n (j := (2 : Int32)) (x := v6) hin17_115 (g := (mkF m 17 #[.val (.int p0), .val (.int p1), .val (.int p2), .val (.int p3), .val (.int p4), .val (.int p5), .unset, .unset, .unset, .unset] [(.int v6), (.int (2 : Int32)), (.ref b101), (.ref b101)])) rfl rfl (hb hby at_17)
  obtain ⟨v7, hv7⟩ : ∃ z : Nat → Int32, z = (own_up v5 2 (nar .byte v6)) := ⟨_, rfl⟩
  have B116n : own_AI Z h116 b101 .byte 5 v7 := by rw [hv7]; exact B116
  have Z117 : n0 ≤ h116.size := Nat.le_trans Z112 (Keep.of_wr W116).1
  have K118 : Keep h0 h116 [] := K113.wr W116 (Or.inr sz_b101)
  have N119 := Fr.snoc X116 N114 g_b101
  obtain ⟨v8, hv8⟩ : ∃ z : Int32, z = (p3.toInt8.toInt32) := ⟨_, rfl⟩
  have hin22_120 : ¬ (3 : Int32) < 0 ∧ (3 : Int32).toNatClampNeg < 5 := by decide
  obtain ⟨T121, h121, X121, e121, W121, B121, st121⟩ := own_stB X116 hx hZ e116 B116n (j := (3 : Int32)) (x := v8) hin22_120 (g := (mkF m 22 #[.val (.int p0), .val (.int p1), .val (.int p2), .val (.int p3), .val (.int p4), .val (.int p5), .unset, .unset, .unset, .unset] [(.int v8), (.int (3 : Int32)), (.ref b101), (.ref b101)])) rfl rfl (hb hby at_22)
  obtain ⟨v9, hv9⟩ : ∃ z : Nat → Int32, z = (own_up v7 3 (nar .byte v8)) := ⟨_, rfl⟩
  have B121n : own_AI Z h121 b101 .byte 5 v9 := by rw [hv9]; exact B121
  have Z122 : n0 ≤ h121.size := Nat.le_trans Z117 (Keep.of_wr W121).1
  have K123 : Keep h0 h121 [] := K118.wr W121 (Or.inr sz_b101)
  have N124 := Fr.snoc X121 N119 g_b101
  obtain ⟨v10, hv10⟩ : ∃ z : Int32, z = (p4.toInt8.toInt32) := ⟨_, rfl⟩
  have hin28_125 : ¬ (4 : Int32) < 0 ∧ (4 : Int32).toNatClampNeg < 5 := by decide
  obtain ⟨T126, h126, X126, e126, W126, B126, st126⟩ := own_stB X121 hx hZ e121 B121n (j := (4 : Int32)) (x := v10) hin28_125 (g := (mkF m 28 #[.val (.int p0), .val (.int p1), .val (.int p2), .val (.int p3), .val (.int p4), .val (.int p5), .unset, .unset, .unset, .unset] [(.int v10), (.int (4 : Int32)), (.ref b101), (.ref b101)])) rfl rfl (hb hby at_28)
  obtain ⟨v11, hv11⟩ : ∃ z : Nat → Int32, z = (own_up v9 4 (nar .byte v10)) := ⟨_, rfl⟩
  have B126n : own_AI Z h126 b101 .byte 5 v11 := by rw [hv11]; exact B126
  have Z127 : n0 ≤ h126.size := Nat.le_trans Z122 (Keep.of_wr W126).1
  have K128 : Keep h0 h126 [] := K123.wr W126 (Or.inr sz_b101)
  have N129 := Fr.snoc X126 N124 g_b101
  obtain ⟨v12, hv12⟩ : ∃ z : Int32, z = (p5 &&& (1 : Int32)) := ⟨_, rfl⟩
  have hnz49_130 : ¬ (((5 : Int32) - v12) = (0 : Int32)) := own_nz5 (own_and1 hv12)
  obtain ⟨v13, hv13⟩ : ∃ z : Int32, z = ((v12 + (1 : Int32)) + (((p5.toUInt32 >>> ((1 : Int32) &&& 31).toUInt32).toInt32) % ((5 : Int32) - v12))) := ⟨_, rfl⟩
  obtain ⟨_, _, ⟨T131, L131, k131, n131⟩, -, X131, ⟨Lc131, hQ131, l131, y131, z131⟩, st131⟩ := Jvm.LawKit.callS X126 hx (y := (⟨"org/tagwright/core/Utf8", "sequenceLength", "([BII)I"⟩ : MethodName)) hown (mvT hZ (hw _ (List.mem_of_getElem? (i := 1) rfl))) (mvT hZ (hw _ (List.mem_of_getElem? (i := 2) rfl))) (mvT hZ (hw _ (List.mem_of_getElem? (i := 3) rfl))) (mvT hZ (hw _ (List.mem_of_getElem? (i := 4) rfl))) (by decide) (backOf (W := 0) (rm1 l Z a0 hw [] b101 v12 v13 v11 h126 n0 Z127 B126n (own_and1 hv12 : v12 = 0 ∨ v12 = 1)) hZ (hw _ (List.mem_of_getElem? (i := 4) rfl)) (hw _ (List.mem_of_getElem? (i := 3) rfl)) (by decide) (by decide)) (g := (mkF m 59 #[.val (.int p0), .val (.int p1), .val (.int p2), .val (.int p3), .val (.int p4), .val (.int p5), .val (.ref b101), .val (.int v12), .val (.int v13), .unset] [(.int v13), (.int v12), (.ref b101)])) rfl (by rw [hml]; rfl) (argsL := [(.ref b101), (.int v12), (.int v13)]) (rest := []) (lenOf pd2 rfl) rfl (by show 2 * 0 + _ ≤ _; exact Nat.le_of_eq rfl) (hb hby at_59) (fun _ _ => ⟨rfl, e126, (by decide : 1 + 0 ≤ _), (by decide : 5 + 0 ≤ _)⟩)
  dsimp only [Pt.U, Pt.locs, Pt.cells, Pt.slots] at X131 l131 y131 z131 st131 hQ131
  subst l131 y131 z131
  obtain ⟨rfl, N131q, e131⟩ := hQ131
  have N131 := Fr.app N129 N131q
  obtain ⟨v14, hv14⟩ : ∃ z : Int32, z = (own_r1 v12 v13 v11) := ⟨_, rfl⟩
  obtain ⟨_, _, ⟨T132, L132, k132, n132⟩, -, X132, ⟨Lc132, hQ132, l132, y132, z132⟩, st132⟩ := Jvm.LawKit.callS X131 hx (y := (⟨"org/tagwright/core/Utf8SequenceLengthPinLaw", "expected", "([BII)I"⟩ : MethodName)) hown (mvT hZ (hw _ (List.mem_of_getElem? (i := 5) rfl))) (mvT hZ (hw _ (List.mem_of_getElem? (i := 6) rfl))) (mvT hZ (hw _ (List.mem_of_getElem? (i := 7) rfl))) (mvT hZ (hw _ (List.mem_of_getElem? (i := 8) rfl))) (by decide) (backOf (W := 1) (rm2 l Z a0 hw [] b101 v12 v13 v11 h126 n0 Z127 B126n (own_and1 hv12 : v12 = 0 ∨ v12 = 1)) hZ (hw _ (List.mem_of_getElem? (i := 8) rfl)) (hw _ (List.mem_of_getElem? (i := 7) rfl)) (by decide) (by decide)) (g := (mkF m 72 #[.val (.int p0), .val (.int p1), .val (.int p2), .val (.int p3), .val (.int p4), .val (.int p5), .val (.ref b101), .val (.int v12), .val (.int v13), .val (.int v14)] [(.int v13), (.int v12), (.ref b101), (.int v14)])) rfl (by rw [hml]; rfl) (argsL := [(.ref b101), (.int v12), (.int v13)]) (rest := [(.int v14)]) (lenOf pd2 rfl) rfl (by show 2 * 0 + _ ≤ _; exact Nat.le_of_eq rfl) (hb hby at_72) (fun _ _ => ⟨rfl, e131, (by decide : 1 + 0 ≤ _), (by decide : 5 + 0 ≤ _)⟩)
  dsimp only [Pt.U, Pt.locs, Pt.cells, Pt.slots] at X132 l132 y132 z132 st132 hQ132
  subst l132 y132 z132
  obtain ⟨rfl, N132q, e132⟩ := hQ132
  have N132 := Fr.app N131 N132q
  obtain ⟨v16, hv16⟩ : ∃ z : Int32, z = (if v14 = (own_r2 v12 v13 v11) then (1 : Int32) else (0 : Int32)) := ⟨_, rfl⟩
  obtain ⟨T135, lc135, X135, N135, e135, st135⟩ := own_mrg (n0 := n0) (h := h126) (g := (mkF m 75 #[.val (.int p0), .val (.int p1), .val (.int p2), .val (.int p3), .val (.int p4), .val (.int p5), .val (.ref b101), .val (.int v12), .val (.int v13), .val (.int v14)] [(.int (own_r2 v12 v13 v11)), (.int v14)])) (g' := (mkF m 83 #[.val (.int p0), .val (.int p1), .val (.int p2), .val (.int p3), .val (.int p4), .val (.int p5), .val (.ref b101), .val (.int v12), .val (.int v13), .val (.int v14)] [(.int v16)])) X132 (by
    by_cases hc75_15 : v14 = (own_r2 v12 v13 v11)
    · have hgo133 : ∀ t, Steps p.tables e below (T132.setTop (mkF m 83 #[.val (.int p0), .val (.int p1), .val (.int p2), .val (.int p3), .val (.int p4), .val (.int p5), .val (.ref b101), .val (.int v12), .val (.int v13), .val (.int v14)] [(.int (1 : Int32))])) t → Steps p.tables e below (T132.setTop (mkF m 75 #[.val (.int p0), .val (.int p1), .val (.int p2), .val (.int p3), .val (.int p4), .val (.int p5), .val (.ref b101), .val (.int v12), .val (.int v13), .val (.int v14)] [(.int (own_r2 v12 v13 v11)), (.int v14)])) t := by
        intro t kt
        show Steps p.tables e below (T132.setTop (mkF m 75 #[.val (.int p0), .val (.int p1), .val (.int p2), .val (.int p3), .val (.int p4), .val (.int p5), .val (.ref b101), .val (.int v12), .val (.int v13), .val (.int v14)] [(.int (own_r2 v12 v13 v11)), (.int v14)])) _
        refine XS.icmpNo X132.here hx rfl (hb hby at_75) rfl (teq hc75_15).2 ?_
        show Steps p.tables e below (T132.setTop (mkF m 78 #[.val (.int p0), .val (.int p1), .val (.int p2), .val (.int p3), .val (.int p4), .val (.int p5), .val (.ref b101), .val (.int v12), .val (.int v13), .val (.int v14)] [])) _
        refine XS.iconst X132.here hx rfl (hb hby at_78) ?_
        show Steps p.tables e below (T132.setTop (mkF m 79 #[.val (.int p0), .val (.int p1), .val (.int p2), .val (.int p3), .val (.int p4), .val (.int p5), .val (.ref b101), .val (.int v12), .val (.int v13), .val (.int v14)] [(.int (1 : Int32))])) _
        refine XS.goto X132.here hx rfl (pc0 := 79) (pc' := 83) rfl (hb hby at_79) (by decide) (by decide) ?_
        exact kt
      refine own_arm hgo133 ?_
      exact own_armEnd X132 N132 e132 (by rw [hv16.trans (if_pos hc75_15)])
    · have hgo134 : ∀ t, Steps p.tables e below (T132.setTop (mkF m 83 #[.val (.int p0), .val (.int p1), .val (.int p2), .val (.int p3), .val (.int p4), .val (.int p5), .val (.ref b101), .val (.int v12), .val (.int v13), .val (.int v14)] [(.int (0 : Int32))])) t → Steps p.tables e below (T132.setTop (mkF m 75 #[.val (.int p0), .val (.int p1), .val (.int p2), .val (.int p3), .val (.int p4), .val (.int p5), .val (.ref b101), .val (.int v12), .val (.int v13), .val (.int v14)] [(.int (own_r2 v12 v13 v11)), (.int v14)])) t := by
        intro t kt
        show Steps p.tables e below (T132.setTop (mkF m 75 #[.val (.int p0), .val (.int p1), .val (.int p2), .val (.int p3), .val (.int p4), .val (.int p5), .val (.ref b101), .val (.int v12), .val (.int v13), .val (.int v14)] [(.int (own_r2 v12 v13 v11)), (.int v14)])) _
        refine XS.icmpYes X132.here hx rfl (pc0 := 75) (pc' := 82) rfl (hb hby at_75) rfl (feq hc75_15).2 (by decide) (by decide) ?_
        show Steps p.tables e below (T132.setTop (mkF m 82 #[.val (.int p0), .val (.int p1), .val (.int p2), .val (.int p3), .val (.int p4), .val (.int p5), .val (.ref b101), .val (.int v12), .val (.int v13), .val (.int v14)] [])) _
        refine XS.iconst X132.here hx rfl (hb hby at_82) ?_
        exact kt
      refine own_arm hgo134 ?_
      exact own_armEnd X132 N132 e132 (by rw [hv16.trans (if_neg hc75_15)]))
  have hgo136 : ∀ t, Steps p.tables e below (T135.setTop (mkF m 83 #[.val (.int p0), .val (.int p1), .val (.int p2), .val (.int p3), .val (.int p4), .val (.int p5), .val (.ref b101), .val (.int v12), .val (.int v13), .val (.int v14)] [(.int v16)])) t → Steps p.tables e below (s₁.setTop (mkF m 0 #[.val (.int p0), .val (.int p1), .val (.int p2), .val (.int p3), .val (.int p4), .val (.int p5), .unset, .unset, .unset, .unset] [])) t := by
    intro t kt
    show Steps p.tables e below (s₁.setTop (mkF m 0 #[.val (.int p0), .val (.int p1), .val (.int p2), .val (.int p3), .val (.int p4), .val (.int p5), .unset, .unset, .unset, .unset] [])) _
    refine XS.iconst X0.here hx rfl (hb hby at_0) ?_
    show Steps p.tables e below (s₁.setTop (mkF m 1 #[.val (.int p0), .val (.int p1), .val (.int p2), .val (.int p3), .val (.int p4), .val (.int p5), .unset, .unset, .unset, .unset] [(.int (5 : Int32))])) _
    refine st101 _ ?_
    show Steps p.tables e below (T101.setTop (mkF m 3 #[.val (.int p0), .val (.int p1), .val (.int p2), .val (.int p3), .val (.int p4), .val (.int p5), .unset, .unset, .unset, .unset] [(.ref b101)])) _
    refine XS.dup X101.here hx rfl (hb hby at_3) rfl rfl ?_
    show Steps p.tables e below (T101.setTop (mkF m 4 #[.val (.int p0), .val (.int p1), .val (.int p2), .val (.int p3), .val (.int p4), .val (.int p5), .unset, .unset, .unset, .unset] [(.ref b101), (.ref b101)])) _
    refine XS.iconst X101.here hx rfl (hb hby at_4) ?_
    show Steps p.tables e below (T101.setTop (mkF m 5 #[.val (.int p0), .val (.int p1), .val (.int p2), .val (.int p3), .val (.int p4), .val (.int p5), .unset, .unset, .unset, .unset] [(.int (0 : Int32)), (.ref b101), (.ref b101)])) _
    refine XS.iloadN X101.here hx rfl (hb hby at_5) rfl ?_
    show Steps p.tables e below (T101.setTop (mkF m 6 #[.val (.int p0), .val (.int p1), .val (.int p2), .val (.int p3), .val (.int p4), .val (.int p5), .unset, .unset, .unset, .unset] [(.int p0), (.int (0 : Int32)), (.ref b101), (.ref b101)])) _
    refine XS.i2b X101.here hx rfl (hb hby at_6) rfl ?_
    show Steps p.tables e below (T101.setTop (mkF m 7 #[.val (.int p0), .val (.int p1), .val (.int p2), .val (.int p3), .val (.int p4), .val (.int p5), .unset, .unset, .unset, .unset] [(.int (p0.toInt8.toInt32)), (.int (0 : Int32)), (.ref b101), (.ref b101)])) _
    rw [← hv2]
    refine st106 _ ?_
    show Steps p.tables e below (T106.setTop (mkF m 8 #[.val (.int p0), .val (.int p1), .val (.int p2), .val (.int p3), .val (.int p4), .val (.int p5), .unset, .unset, .unset, .unset] [(.ref b101)])) _
    refine XS.dup X106.here hx rfl (hb hby at_8) rfl rfl ?_
    show Steps p.tables e below (T106.setTop (mkF m 9 #[.val (.int p0), .val (.int p1), .val (.int p2), .val (.int p3), .val (.int p4), .val (.int p5), .unset, .unset, .unset, .unset] [(.ref b101), (.ref b101)])) _
    refine XS.iconst X106.here hx rfl (hb hby at_9) ?_
    show Steps p.tables e below (T106.setTop (mkF m 10 #[.val (.int p0), .val (.int p1), .val (.int p2), .val (.int p3), .val (.int p4), .val (.int p5), .unset, .unset, .unset, .unset] [(.int (1 : Int32)), (.ref b101), (.ref b101)])) _
    refine XS.iloadN X106.here hx rfl (hb hby at_10) rfl ?_
    show Steps p.tables e below (T106.setTop (mkF m 11 #[.val (.int p0), .val (.int p1), .val (.int p2), .val (.int p3), .val (.int p4), .val (.int p5), .unset, .unset, .unset, .unset] [(.int p1), (.int (1 : Int32)), (.ref b101), (.ref b101)])) _
    refine XS.i2b X106.here hx rfl (hb hby at_11) rfl ?_
    show Steps p.tables e below (T106.setTop (mkF m 12 #[.val (.int p0), .val (.int p1), .val (.int p2), .val (.int p3), .val (.int p4), .val (.int p5), .unset, .unset, .unset, .unset] [(.int (p1.toInt8.toInt32)), (.int (1 : Int32)), (.ref b101), (.ref b101)])) _
    rw [← hv4]
    refine st111 _ ?_
    show Steps p.tables e below (T111.setTop (mkF m 13 #[.val (.int p0), .val (.int p1), .val (.int p2), .val (.int p3), .val (.int p4), .val (.int p5), .unset, .unset, .unset, .unset] [(.ref b101)])) _
    refine XS.dup X111.here hx rfl (hb hby at_13) rfl rfl ?_
    show Steps p.tables e below (T111.setTop (mkF m 14 #[.val (.int p0), .val (.int p1), .val (.int p2), .val (.int p3), .val (.int p4), .val (.int p5), .unset, .unset, .unset, .unset] [(.ref b101), (.ref b101)])) _
    refine XS.iconst X111.here hx rfl (hb hby at_14) ?_
    show Steps p.tables e below (T111.setTop (mkF m 15 #[.val (.int p0), .val (.int p1), .val (.int p2), .val (.int p3), .val (.int p4), .val (.int p5), .unset, .unset, .unset, .unset] [(.int (2 : Int32)), (.ref b101), (.ref b101)])) _
    refine XS.iloadN X111.here hx rfl (hb hby at_15) rfl ?_
    show Steps p.tables e below (T111.setTop (mkF m 16 #[.val (.int p0), .val (.int p1), .val (.int p2), .val (.int p3), .val (.int p4), .val (.int p5), .unset, .unset, .unset, .unset] [(.int p2), (.int (2 : Int32)), (.ref b101), (.ref b101)])) _
    refine XS.i2b X111.here hx rfl (hb hby at_16) rfl ?_
    show Steps p.tables e below (T111.setTop (mkF m 17 #[.val (.int p0), .val (.int p1), .val (.int p2), .val (.int p3), .val (.int p4), .val (.int p5), .unset, .unset, .unset, .unset] [(.int (p2.toInt8.toInt32)), (.int (2 : Int32)), (.ref b101), (.ref b101)])) _
    rw [← hv6]
    refine st116 _ ?_
    show Steps p.tables e below (T116.setTop (mkF m 18 #[.val (.int p0), .val (.int p1), .val (.int p2), .val (.int p3), .val (.int p4), .val (.int p5), .unset, .unset, .unset, .unset] [(.ref b101)])) _
    refine XS.dup X116.here hx rfl (hb hby at_18) rfl rfl ?_
    show Steps p.tables e below (T116.setTop (mkF m 19 #[.val (.int p0), .val (.int p1), .val (.int p2), .val (.int p3), .val (.int p4), .val (.int p5), .unset, .unset, .unset, .unset] [(.ref b101), (.ref b101)])) _
    refine XS.iconst X116.here hx rfl (hb hby at_19) ?_
    show Steps p.tables e below (T116.setTop (mkF m 20 #[.val (.int p0), .val (.int p1), .val (.int p2), .val (.int p3), .val (.int p4), .val (.int p5), .unset, .unset, .unset, .unset] [(.int (3 : Int32)), (.ref b101), (.ref b101)])) _
    refine XS.iloadN X116.here hx rfl (hb hby at_20) rfl ?_
    show Steps p.tables e below (T116.setTop (mkF m 21 #[.val (.int p0), .val (.int p1), .val (.int p2), .val (.int p3), .val (.int p4), .val (.int p5), .unset, .unset, .unset, .unset] [(.int p3), (.int (3 : Int32)), (.ref b101), (.ref b101)])) _
    refine XS.i2b X116.here hx rfl (hb hby at_21) rfl ?_
    show Steps p.tables e below (T116.setTop (mkF m 22 #[.val (.int p0), .val (.int p1), .val (.int p2), .val (.int p3), .val (.int p4), .val (.int p5), .unset, .unset, .unset, .unset] [(.int (p3.toInt8.toInt32)), (.int (3 : Int32)), (.ref b101), (.ref b101)])) _
    rw [← hv8]
    refine st121 _ ?_
    show Steps p.tables e below (T121.setTop (mkF m 23 #[.val (.int p0), .val (.int p1), .val (.int p2), .val (.int p3), .val (.int p4), .val (.int p5), .unset, .unset, .unset, .unset] [(.ref b101)])) _
    refine XS.dup X121.here hx rfl (hb hby at_23) rfl rfl ?_
    show Steps p.tables e below (T121.setTop (mkF m 24 #[.val (.int p0), .val (.int p1), .val (.int p2), .val (.int p3), .val (.int p4), .val (.int p5), .unset, .unset, .unset, .unset] [(.ref b101), (.ref b101)])) _
    refine XS.iconst X121.here hx rfl (hb hby at_24) ?_
    show Steps p.tables e below (T121.setTop (mkF m 25 #[.val (.int p0), .val (.int p1), .val (.int p2), .val (.int p3), .val (.int p4), .val (.int p5), .unset, .unset, .unset, .unset] [(.int (4 : Int32)), (.ref b101), (.ref b101)])) _
    refine XS.iload X121.here hx rfl (hb hby at_25) rfl ?_
    show Steps p.tables e below (T121.setTop (mkF m 27 #[.val (.int p0), .val (.int p1), .val (.int p2), .val (.int p3), .val (.int p4), .val (.int p5), .unset, .unset, .unset, .unset] [(.int p4), (.int (4 : Int32)), (.ref b101), (.ref b101)])) _
    refine XS.i2b X121.here hx rfl (hb hby at_27) rfl ?_
    show Steps p.tables e below (T121.setTop (mkF m 28 #[.val (.int p0), .val (.int p1), .val (.int p2), .val (.int p3), .val (.int p4), .val (.int p5), .unset, .unset, .unset, .unset] [(.int (p4.toInt8.toInt32)), (.int (4 : Int32)), (.ref b101), (.ref b101)])) _
    rw [← hv10]
    refine st126 _ ?_
    show Steps p.tables e below (T126.setTop (mkF m 29 #[.val (.int p0), .val (.int p1), .val (.int p2), .val (.int p3), .val (.int p4), .val (.int p5), .unset, .unset, .unset, .unset] [(.ref b101)])) _
    refine XS.astore X126.here hx rfl (hb hby at_29) rfl rfl (l' := #[.val (.int p0), .val (.int p1), .val (.int p2), .val (.int p3), .val (.int p4), .val (.int p5), .val (.ref b101), .unset, .unset, .unset]) rfl ?_
    show Steps p.tables e below (T126.setTop (mkF m 31 #[.val (.int p0), .val (.int p1), .val (.int p2), .val (.int p3), .val (.int p4), .val (.int p5), .val (.ref b101), .unset, .unset, .unset] [])) _
    refine XS.iload X126.here hx rfl (hb hby at_31) rfl ?_
    show Steps p.tables e below (T126.setTop (mkF m 33 #[.val (.int p0), .val (.int p1), .val (.int p2), .val (.int p3), .val (.int p4), .val (.int p5), .val (.ref b101), .unset, .unset, .unset] [(.int p5)])) _
    refine XS.iconst X126.here hx rfl (hb hby at_33) ?_
    show Steps p.tables e below (T126.setTop (mkF m 34 #[.val (.int p0), .val (.int p1), .val (.int p2), .val (.int p3), .val (.int p4), .val (.int p5), .val (.ref b101), .unset, .unset, .unset] [(.int (1 : Int32)), (.int p5)])) _
    refine XS.iand X126.here hx rfl (hb hby at_34) rfl ?_
    show Steps p.tables e below (T126.setTop (mkF m 35 #[.val (.int p0), .val (.int p1), .val (.int p2), .val (.int p3), .val (.int p4), .val (.int p5), .val (.ref b101), .unset, .unset, .unset] [(.int (p5 &&& (1 : Int32)))])) _
    rw [← hv12]
    show Steps p.tables e below (T126.setTop (mkF m 35 #[.val (.int p0), .val (.int p1), .val (.int p2), .val (.int p3), .val (.int p4), .val (.int p5), .val (.ref b101), .unset, .unset, .unset] [(.int v12)])) _
    refine XS.istore X126.here hx rfl (hb hby at_35) rfl (l' := #[.val (.int p0), .val (.int p1), .val (.int p2), .val (.int p3), .val (.int p4), .val (.int p5), .val (.ref b101), .val (.int v12), .unset, .unset]) rfl ?_
    show Steps p.tables e below (T126.setTop (mkF m 37 #[.val (.int p0), .val (.int p1), .val (.int p2), .val (.int p3), .val (.int p4), .val (.int p5), .val (.ref b101), .val (.int v12), .unset, .unset] [])) _
    refine XS.iload X126.here hx rfl (hb hby at_37) rfl ?_
    show Steps p.tables e below (T126.setTop (mkF m 39 #[.val (.int p0), .val (.int p1), .val (.int p2), .val (.int p3), .val (.int p4), .val (.int p5), .val (.ref b101), .val (.int v12), .unset, .unset] [(.int v12)])) _
    refine XS.iconst X126.here hx rfl (hb hby at_39) ?_
    show Steps p.tables e below (T126.setTop (mkF m 40 #[.val (.int p0), .val (.int p1), .val (.int p2), .val (.int p3), .val (.int p4), .val (.int p5), .val (.ref b101), .val (.int v12), .unset, .unset] [(.int (1 : Int32)), (.int v12)])) _
    refine XS.iadd X126.here hx rfl (hb hby at_40) rfl ?_
    show Steps p.tables e below (T126.setTop (mkF m 41 #[.val (.int p0), .val (.int p1), .val (.int p2), .val (.int p3), .val (.int p4), .val (.int p5), .val (.ref b101), .val (.int v12), .unset, .unset] [(.int (v12 + (1 : Int32)))])) _
    refine XS.iload X126.here hx rfl (hb hby at_41) rfl ?_
    show Steps p.tables e below (T126.setTop (mkF m 43 #[.val (.int p0), .val (.int p1), .val (.int p2), .val (.int p3), .val (.int p4), .val (.int p5), .val (.ref b101), .val (.int v12), .unset, .unset] [(.int p5), (.int (v12 + (1 : Int32)))])) _
    refine XS.iconst X126.here hx rfl (hb hby at_43) ?_
    show Steps p.tables e below (T126.setTop (mkF m 44 #[.val (.int p0), .val (.int p1), .val (.int p2), .val (.int p3), .val (.int p4), .val (.int p5), .val (.ref b101), .val (.int v12), .unset, .unset] [(.int (1 : Int32)), (.int p5), (.int (v12 + (1 : Int32)))])) _
    refine XS.iushr X126.here hx rfl (hb hby at_44) rfl ?_
    show Steps p.tables e below (T126.setTop (mkF m 45 #[.val (.int p0), .val (.int p1), .val (.int p2), .val (.int p3), .val (.int p4), .val (.int p5), .val (.ref b101), .val (.int v12), .unset, .unset] [(.int ((p5.toUInt32 >>> ((1 : Int32) &&& 31).toUInt32).toInt32)), (.int (v12 + (1 : Int32)))])) _
    refine XS.iconst X126.here hx rfl (hb hby at_45) ?_
    show Steps p.tables e below (T126.setTop (mkF m 46 #[.val (.int p0), .val (.int p1), .val (.int p2), .val (.int p3), .val (.int p4), .val (.int p5), .val (.ref b101), .val (.int v12), .unset, .unset] [(.int (5 : Int32)), (.int ((p5.toUInt32 >>> ((1 : Int32) &&& 31).toUInt32).toInt32)), (.int (v12 + (1 : Int32)))])) _
    refine XS.iload X126.here hx rfl (hb hby at_46) rfl ?_
    show Steps p.tables e below (T126.setTop (mkF m 48 #[.val (.int p0), .val (.int p1), .val (.int p2), .val (.int p3), .val (.int p4), .val (.int p5), .val (.ref b101), .val (.int v12), .unset, .unset] [(.int v12), (.int (5 : Int32)), (.int ((p5.toUInt32 >>> ((1 : Int32) &&& 31).toUInt32).toInt32)), (.int (v12 + (1 : Int32)))])) _
    refine XS.isub X126.here hx rfl (hb hby at_48) rfl ?_
    show Steps p.tables e below (T126.setTop (mkF m 49 #[.val (.int p0), .val (.int p1), .val (.int p2), .val (.int p3), .val (.int p4), .val (.int p5), .val (.ref b101), .val (.int v12), .unset, .unset] [(.int ((5 : Int32) - v12)), (.int ((p5.toUInt32 >>> ((1 : Int32) &&& 31).toUInt32).toInt32)), (.int (v12 + (1 : Int32)))])) _
    refine XS.irem X126.here hx rfl (hb hby at_49) rfl hnz49_130 ?_
    rw [own_remI ((p5.toUInt32 >>> ((1 : Int32) &&& 31).toUInt32).toInt32) ((5 : Int32) - v12)]
    show Steps p.tables e below (T126.setTop (mkF m 50 #[.val (.int p0), .val (.int p1), .val (.int p2), .val (.int p3), .val (.int p4), .val (.int p5), .val (.ref b101), .val (.int v12), .unset, .unset] [(.int (((p5.toUInt32 >>> ((1 : Int32) &&& 31).toUInt32).toInt32) % ((5 : Int32) - v12))), (.int (v12 + (1 : Int32)))])) _
    refine XS.iadd X126.here hx rfl (hb hby at_50) rfl ?_
    show Steps p.tables e below (T126.setTop (mkF m 51 #[.val (.int p0), .val (.int p1), .val (.int p2), .val (.int p3), .val (.int p4), .val (.int p5), .val (.ref b101), .val (.int v12), .unset, .unset] [(.int ((v12 + (1 : Int32)) + (((p5.toUInt32 >>> ((1 : Int32) &&& 31).toUInt32).toInt32) % ((5 : Int32) - v12))))])) _
    rw [← hv13]
    show Steps p.tables e below (T126.setTop (mkF m 51 #[.val (.int p0), .val (.int p1), .val (.int p2), .val (.int p3), .val (.int p4), .val (.int p5), .val (.ref b101), .val (.int v12), .unset, .unset] [(.int v13)])) _
    refine XS.istore X126.here hx rfl (hb hby at_51) rfl (l' := #[.val (.int p0), .val (.int p1), .val (.int p2), .val (.int p3), .val (.int p4), .val (.int p5), .val (.ref b101), .val (.int v12), .val (.int v13), .unset]) rfl ?_
    show Steps p.tables e below (T126.setTop (mkF m 53 #[.val (.int p0), .val (.int p1), .val (.int p2), .val (.int p3), .val (.int p4), .val (.int p5), .val (.ref b101), .val (.int v12), .val (.int v13), .unset] [])) _
    refine XS.aload X126.here hx rfl (hb hby at_53) rfl rfl ?_
    show Steps p.tables e below (T126.setTop (mkF m 55 #[.val (.int p0), .val (.int p1), .val (.int p2), .val (.int p3), .val (.int p4), .val (.int p5), .val (.ref b101), .val (.int v12), .val (.int v13), .unset] [(.ref b101)])) _
    refine XS.iload X126.here hx rfl (hb hby at_55) rfl ?_
    show Steps p.tables e below (T126.setTop (mkF m 57 #[.val (.int p0), .val (.int p1), .val (.int p2), .val (.int p3), .val (.int p4), .val (.int p5), .val (.ref b101), .val (.int v12), .val (.int v13), .unset] [(.int v12), (.ref b101)])) _
    refine XS.iload X126.here hx rfl (hb hby at_57) rfl ?_
    show Steps p.tables e below (T126.setTop (mkF m 59 #[.val (.int p0), .val (.int p1), .val (.int p2), .val (.int p3), .val (.int p4), .val (.int p5), .val (.ref b101), .val (.int v12), .val (.int v13), .unset] [(.int v13), (.int v12), (.ref b101)])) _
    refine st131 _ ?_
    show Steps p.tables e below (T131.setTop (mkF m 62 #[.val (.int p0), .val (.int p1), .val (.int p2), .val (.int p3), .val (.int p4), .val (.int p5), .val (.ref b101), .val (.int v12), .val (.int v13), .unset] [(.int (own_r1 v12 v13 v11))])) _
    rw [← hv14]
    show Steps p.tables e below (T131.setTop (mkF m 62 #[.val (.int p0), .val (.int p1), .val (.int p2), .val (.int p3), .val (.int p4), .val (.int p5), .val (.ref b101), .val (.int v12), .val (.int v13), .unset] [(.int v14)])) _
    refine XS.istore X131.here hx rfl (hb hby at_62) rfl (l' := #[.val (.int p0), .val (.int p1), .val (.int p2), .val (.int p3), .val (.int p4), .val (.int p5), .val (.ref b101), .val (.int v12), .val (.int v13), .val (.int v14)]) rfl ?_
    show Steps p.tables e below (T131.setTop (mkF m 64 #[.val (.int p0), .val (.int p1), .val (.int p2), .val (.int p3), .val (.int p4), .val (.int p5), .val (.ref b101), .val (.int v12), .val (.int v13), .val (.int v14)] [])) _
    refine XS.iload X131.here hx rfl (hb hby at_64) rfl ?_
    show Steps p.tables e below (T131.setTop (mkF m 66 #[.val (.int p0), .val (.int p1), .val (.int p2), .val (.int p3), .val (.int p4), .val (.int p5), .val (.ref b101), .val (.int v12), .val (.int v13), .val (.int v14)] [(.int v14)])) _
    refine XS.aload X131.here hx rfl (hb hby at_66) rfl rfl ?_
    show Steps p.tables e below (T131.setTop (mkF m 68 #[.val (.int p0), .val (.int p1), .val (.int p2), .val (.int p3), .val (.int p4), .val (.int p5), .val (.ref b101), .val (.int v12), .val (.int v13), .val (.int v14)] [(.ref b101), (.int v14)])) _
    refine XS.iload X131.here hx rfl (hb hby at_68) rfl ?_
    show Steps p.tables e below (T131.setTop (mkF m 70 #[.val (.int p0), .val (.int p1), .val (.int p2), .val (.int p3), .val (.int p4), .val (.int p5), .val (.ref b101), .val (.int v12), .val (.int v13), .val (.int v14)] [(.int v12), (.ref b101), (.int v14)])) _
    refine XS.iload X131.here hx rfl (hb hby at_70) rfl ?_
    show Steps p.tables e below (T131.setTop (mkF m 72 #[.val (.int p0), .val (.int p1), .val (.int p2), .val (.int p3), .val (.int p4), .val (.int p5), .val (.ref b101), .val (.int v12), .val (.int v13), .val (.int v14)] [(.int v13), (.int v12), (.ref b101), (.int v14)])) _
    refine st132 _ ?_
    show Steps p.tables e below (T132.setTop (mkF m 75 #[.val (.int p0), .val (.int p1), .val (.int p2), .val (.int p3), .val (.int p4), .val (.int p5), .val (.ref b101), .val (.int v12), .val (.int v13), .val (.int v14)] [(.int (own_r2 v12 v13 v11)), (.int v14)])) _
    refine st135 _ ?_
    exact kt
  refine own_go hgo136 ?_
  have hz137 : v16 = 1 := own_leaf0 (p0 := p0) (p1 := p1) (p2 := p2) (p3 := p3) (p4 := p4) (p5 := p5) hv1 hv2 hv3 hv4 hv5 hv6 hv7 hv8 hv9 hv10 hv11 hv12 hv13 hv14 hv16
  exact own_retZ X135 hx Bd.returns Bd.notSynchronized (hb hby at_83) (by decide) (by decide) (Or.inr hz137) ⟨by rw [hz137], N135⟩
set_option maxRecDepth 65536 in
set_option maxHeartbeats 40000000 in
theorem comes_1 {Post : Tables → Env → Array Value → State → Outcome → State → Prop} (hpost : ∀ tb e args s v u, (limb_1_1.after args s (.returned v) u = true ∧ limb_1_2.after args s (.returned v) u = true ∧ True) → FrameEnd s (.returned v) u (Jvm.fieldLocs frame_1_writes args s ++ Jvm.arrayLocs frame_1_arrays args s ++ Jvm.staticLocs frame_1_statics s) 16 128 → Post tb e args s (.returned v) u) :
    ArmFor flags0 classFile x code maxLocals ret World_1 tables_1 room_1 Calls_1 rest_1 Pre_1 Post := by
  intro l hfl _ _ p e ha hc hk s m args below hf hA hF happ hP
  obtain ⟨hcalls, hrest, hpre⟩ := hP
  obtain ⟨-, -, -, hnamed, -, -, -, hat⟩ := (Spec.applies_iff hf).mp happ
  obtain ⟨hg, hn⟩ := and_e (Cond.before_iff.mp (show (Jvm.Cond.and given_1 narrow_1).before args s = true from hpre))
  obtain ⟨gg1, gg2⟩ := and_e hg
  obtain ⟨gg3, gg4⟩ := and_e gg2
  obtain ⟨gg5, gg6⟩ := and_e gg4
  obtain ⟨gg7, gg8⟩ := and_e gg6
  obtain ⟨gg9, gg10⟩ := and_e gg8
  obtain ⟨gg11, gg12⟩ := and_e gg10
  obtain ⟨w0, w1, w2, w3, w4, w5, rfl⟩ : ∃ w0 w1 w2 w3 w4 w5 : Value, args = #[w0, w1, w2, w3, w4, w5] := by
    have hs : args.size = 6 := by simpa [Cond.value, given_1] using gg1
    obtain ⟨L⟩ := args
    match L, hs with
    | [w0, w1, w2, w3, w4, w5], _ => exact ⟨w0, w1, w2, w3, w4, w5, rfl⟩
  have hw := fun d (hd : d ∈ tables_1) => atoms_spec (ws := Jvm.Cond.code x code maxLocals ret :: tables_1) hat d (List.mem_cons_of_mem _ hd)
  have hfit : Fit s := fun {y c} hc i hi => by
    obtain ⟨ha, rfl⟩ := Array.getElem?_eq_some_iff.mp hc
    have q := List.all_eq_true.mp ((Array.all_eq_true_iff_forall_mem.mp hF) _ (Array.getElem_mem ha)) i (List.mem_range.mpr hi)
    simpa [Array.getElem?_eq_getElem hi] using q
  obtain ⟨i0, ei0⟩ := is_v gg3
  obtain rfl : w0 = (.int i0) := Option.some.inj ei0
  obtain ⟨i1, ei1⟩ := is_v gg5
  obtain rfl : w1 = (.int i1) := Option.some.inj ei1
  obtain ⟨i2, ei2⟩ := is_v gg7
  obtain rfl : w2 = (.int i2) := Option.some.inj ei2
  obtain ⟨i3, ei3⟩ := is_v gg9
  obtain rfl : w3 = (.int i3) := Option.some.inj ei3
  obtain ⟨i4, ei4⟩ := is_v gg11
  obtain rfl : w4 = (.int i4) := Option.some.inj ei4
  obtain ⟨i5, ei5⟩ := is_v gg12
  obtain rfl : w5 = (.int i5) := Option.some.inj ei5
  obtain ⟨n, o, h1, h2, h3, _, L, rfl, ⟨rfl, N⟩, hq⟩ := rm0 l s _ hw tables_1 i0 i1 i2 i3 i4 i5 s.heap s.heap.size (Nat.le_refl _)  p e ha hc hk s m _ below hf ((Spec.applies_iff_loose hf).mp happ).1 ⟨rfl, State.Warmed39.refl s, rfl⟩ trivial
  refine ⟨n, _, h1, h2, h3, hpost _ _ _ _ _ _ ⟨Cond.after_iff.mpr rfl, Cond.after_iff.mpr (eq_i res_at (Term.int_eval (1)) rfl), trivial⟩ ⟨hq.1, hq.2.1, (hq.2.2.sift fun y hy => Or.inr (N y hy)).mono (by decide) (by decide)⟩⟩
theorem main_1_1 : Claimed_1_1 := comes_1 fun _ _ _ _ _ _ h hF => ⟨h.1, hF⟩
theorem main_1_2 : Claimed_1_2 := comes_1 fun _ _ _ _ _ _ h hF => ⟨h.2.1, hF⟩
end Jvm.Pilot.@@N@@
namespace Jvm.Pilot.@@N@@
open Jvm Jvm.ClassFile Sem Op Lib Jvm.Free Jvm.Stand Jvm.Pilot.@@N@@.Jvm.D
/-! MADE BY PROGRAM (witnessworld.py) out of the Statement's table words and the real class files: 9 classes; the members and pool entries that the words name. The judged class is class 1, her method 1. -/
namespace start1
open Jvm.ClassFile
def u (s : String) : CpInfo := .utf8 (stringToUtf16 s)
/-- a pool by its gaps: so many unusable entries, then the entry; so many at the end -/
def gap : Nat → List CpInfo → List CpInfo
  | 0, r => r
  | n + 1, r => .unusable :: gap n r
def poolList (es : List (Nat × CpInfo)) (last : Nat) : List CpInfo := es.foldr (fun e r => gap e.1 (e.2 :: r)) (gap last [])
def pool (es : List (Nat × CpInfo)) (last : Nat) : Array CpInfo := ⟨poolList es last⟩
def fileOf (pool : Array CpInfo) (this : Nat) (attrs : Array Attribute := #[]) (ms : Array MethodInfo := #[]) (fl : Nat := 33) (sup : Nat := 0) (ifs : Array Nat := #[]) (fds : Array FieldInfo := #[]) : ClassFile where
  minorVersion := 0
  majorVersion := 65
  constantPool := pool
  accessFlags := fl
  thisClass := this
  superClass := sup
  interfaces := ifs
  fields := fds
  methods := ms
  attributes := attrs
def plain (name : String) (sup : Option ClassId) : Class where
  name := name
  kind := .ordinary
  loader := none
  accessFlags := 33
  super := sup
  interfaces := #[]
  cf := none
  fields := #[]
  methods := #[]
  instanceTypes := #[]
  staticTypes := #[]
  resolved := #[]
  callSites := []
  init := .initialized
  statics := none
  mirror := none

def pool0 : Array CpInfo := pool [(5, u "<init>"), (0, u "()V"), (1, .class_ 10), (1, u "java/lang/Object")] 113

def k0m0 : Method := { name := "<init>", desc := "()V", sig := { parameters := [], returnType := none }, accessFlags := 1, code := none }
/-- java/lang/Object -/
def k0 : Class := { plain "java/lang/Object" none with
  accessFlags := 33
  interfaces := #[]
  cf := some (fileOf pool0 8 #[] #[{ accessFlags := 1, nameIndex := 5, descriptorIndex := 6, attributes := #[] }] 33 0 #[] #[])
  fields := #[]
  methods := #[k0m0]
  instanceTypes := #[]
  staticTypes := #[]
  resolved := Array.replicate 124 none
  statics := none }

def pool1 : Array CpInfo := pool [(2, .class_ 4), (1, u "java/lang/Object"), (0, u "<init>"), (0, u "()V"), (0, .methodref 8 9), (0, .class_ 10), (0, .nameAndType 11 12), (0, u "org/tagwright/core/Utf8"), (0, u "sequenceLength"), (0, u "([BII)I"), (0, .methodref 14 15), (0, .class_ 16), (0, .nameAndType 17 12), (0, u "org/tagwright/core/Utf8SequenceLengthPinLaw"), (0, u "expected"), (0, .integer 65536), (0, .integer 55296), (0, .integer 57343), (0, .integer 1114111), (2, u "law"), (0, u "(IIIIII)Z")] 5

def k1m0 : Method := { name := "<init>", desc := "()V", sig := { parameters := [], returnType := none }, accessFlags := 2, code := none }
def k1c1 : Code := { maxStack := 4, maxLocals := 10, code := code, exceptionTable := #[], attributes := #[] }
def k1m1 : Method := { name := "law", desc := "(IIIIII)Z", sig := { parameters := [.int, .int, .int, .int, .int, .int], returnType := some .boolean }, accessFlags := 9, code := some k1c1 }
def k1c2 : Code := { maxStack := 3, maxLocals := 10, code := method_3_code, exceptionTable := #[], attributes := #[] }
def k1m2 : Method := { name := "expected", desc := "([BII)I", sig := { parameters := [(.array .byte), .int, .int], returnType := some .int }, accessFlags := 10, code := some k1c2 }
/-- org/tagwright/core/Utf8SequenceLengthPinLaw -/
def k1 : Class := { plain "org/tagwright/core/Utf8SequenceLengthPinLaw" (some 0) with
  accessFlags := 49
  interfaces := #[]
  cf := some (fileOf pool1 14 #[] #[{ accessFlags := 2, nameIndex := 5, descriptorIndex := 6, attributes := #[] }, { accessFlags := 9, nameIndex := 24, descriptorIndex := 25, attributes := #[] }, { accessFlags := 10, nameIndex := 17, descriptorIndex := 12, attributes := #[] }] 49 2 #[] #[])
  fields := #[]
  methods := #[k1m0, k1m1, k1m2]
  instanceTypes := #[]
  staticTypes := #[]
  resolved := Array.replicate 31 none
  statics := none }

def pool2 : Array CpInfo := pool [(2, .class_ 4), (1, u "java/lang/Object"), (0, u "<init>"), (0, u "()V"), (0, .class_ 8), (0, u "org/tagwright/core/Utf8"), (2, u "sequenceLength"), (0, u "([BII)I")] 5

def k2m0 : Method := { name := "<init>", desc := "()V", sig := { parameters := [], returnType := none }, accessFlags := 2, code := none }
def k2c1 : Code := { maxStack := 3, maxLocals := 10, code := prog_60_method_2_code, exceptionTable := #[], attributes := #[] }
def k2m1 : Method := { name := "sequenceLength", desc := "([BII)I", sig := { parameters := [(.array .byte), .int, .int], returnType := some .int }, accessFlags := 8, code := some k2c1 }
/-- org/tagwright/core/Utf8 -/
def k2 : Class := { plain "org/tagwright/core/Utf8" (some 0) with
  accessFlags := 48
  interfaces := #[]
  cf := some (fileOf pool2 7 #[] #[{ accessFlags := 2, nameIndex := 5, descriptorIndex := 6, attributes := #[] }, { accessFlags := 8, nameIndex := 11, descriptorIndex := 12, attributes := #[] }] 48 2 #[] #[])
  fields := #[]
  methods := #[k2m0, k2m1]
  instanceTypes := #[]
  staticTypes := #[]
  resolved := Array.replicate 18 none
  statics := none }

def pool3 : Array CpInfo := pool [(1, u "java/lang/Cloneable"), (0, .class_ 1), (0, u "java/lang/Object"), (0, .class_ 3)] 3

/-- java/lang/Cloneable -/
def k3 : Class := { plain "java/lang/Cloneable" (some 0) with
  accessFlags := 1537
  interfaces := #[]
  cf := some (fileOf pool3 2 #[] #[] 1537 4 #[] #[])
  fields := #[]
  methods := #[]
  instanceTypes := #[]
  staticTypes := #[]
  resolved := Array.replicate 8 none
  statics := none }

def pool4 : Array CpInfo := pool [(1, u "java/io/Serializable"), (0, .class_ 1), (0, u "java/lang/Object"), (0, .class_ 3)] 3

/-- java/io/Serializable -/
def k4 : Class := { plain "java/io/Serializable" (some 0) with
  accessFlags := 1537
  interfaces := #[]
  cf := some (fileOf pool4 2 #[] #[] 1537 4 #[] #[])
  fields := #[]
  methods := #[]
  instanceTypes := #[]
  staticTypes := #[]
  resolved := Array.replicate 8 none
  statics := none }

/-- the primitive byte -/
def k5 : Class := { plain "byte" none with kind := .primitive 'B', accessFlags := 0x411 }
/-- [B -/
def k6 : Class := { plain "[B" (some 0) with kind := .array 5 .byte, interfaces := #[3, 4], accessFlags := 1041 }

/-- the primitive int -/
def k7 : Class := { plain "int" none with kind := .primitive 'I', accessFlags := 0x411 }
/-- [I -/
def k8 : Class := { plain "[I" (some 0) with kind := .array 7 .int, interfaces := #[3, 4], accessFlags := 1041 }

def heap : Heap := #[]
def classes : Array Class := #[k0, k1, k2, k3, k4, k5, k6, k7, k8]
def interned : List (Array UInt16 × Addr) := []
def slotsUsed : Nat := 0
def theMethod : MethodId := ⟨1, 1⟩
def args0 : Array Value := #[.int 5, .int 5, .int 5, .int 5, .int 5, .int 5]
def aboutOver (below : List Frame) : State where
  vm := { classes := classes, interned := interned.toArray }
  heap := heap
  slotsUsed := slotsUsed
  threads := #[{ frames := .invoking theMethod args0 :: below }]
def below0 : List Frame := [.native { method := ⟨0, 0⟩, args := #[] }]
def about1 : State := aboutOver below0
def p0 : Program := .bare "" "" ""
def e0 : Env := launch0.env 0 0 0
theorem w_frames : about1.frames = Frame.invoking theMethod args0 :: below0 := rfl
set_option maxRecDepth 65536 in
theorem w_args : argsFit about1.vm theMethod args0 = true := by decide +kernel
set_option maxRecDepth 65536 in
theorem w_heap : heapFits about1 = true := by decide +kernel
set_option maxRecDepth 65536 in
theorem w_runnable : about1.curStatus? = some .runnable := by decide +kernel
set_option maxRecDepth 65536 in
theorem w_alone : about1.alone = true := by decide +kernel
set_option maxRecDepth 65536 in
theorem w_named : about1.methodNamed? x = some theMethod := by decide +kernel
set_option maxRecDepth 65536 in
theorem w_hears : about1.hears theMethod below0 = true := by decide +kernel
set_option maxRecDepth 65536 in
theorem w_ripe : about1.ripe theMethod args0 below0 = true := by decide +kernel
theorem w_running : about1.status = .running := rfl
set_option maxRecDepth 65536 in
theorem w_room : about1.hasRoom e0.platform room_1 = true :=
  launch0.hasRoom_least _ room_1 (by decide +kernel) (by decide +kernel) (by decide +kernel) (by decide +kernel) (by decide +kernel) (by decide +kernel)
theorem allAtoms_all (ts : List Jvm.Cond) (a : Array Jvm.Value) (st : Jvm.State) : (allAtoms ts).before a st = ts.all (fun c => c.before a st) := by
  induction ts with
  | nil => rfl
  | cons c t ih =>
    show (Jvm.Cond.and c (allAtoms t)).before a st = _
    rw [Jvm.Cond.before_and, ih, List.all_cons]
def words1 : List Jvm.Cond := Jvm.Cond.code x code maxLocals ret :: tables_1
/-- a 'code' word, met by the world's own term for the bytes: nothing is compared byte by byte -/
theorem code_word {y : MethodName} {bytes : ByteArray} {mx : Nat} {rt : Option FieldType} {a : Array Value} {s : State} {m : MethodId} {meth : Method} {c : Code} (h1 : s.methodNamed? y = some m) (h2 : s.vm.method? m = some meth) (h3 : meth.code = some c) (h4 : c.code = bytes)
    (h5 : (c.maxLocals == mx && c.exceptionTable.isEmpty && decide (c.maxStack ≤ mostOperands) && decide (meth.sig.returnType = rt) && !meth.locks && decide (parseMethodDescriptor y.desc = some meth.sig)) = true) : (Jvm.Cond.code y bytes mx rt).before a s = true := by
  simp only [Bool.and_eq_true, beq_iff_eq, Bool.not_eq_true', decide_eq_true_eq] at h5
  obtain ⟨⟨⟨⟨⟨g1, g2⟩, g3⟩, g4⟩, g5⟩, g6⟩ := h5
  simp [Cond.before, Cond.holds, Cond.value, h1, h2, h3, h4, g1, g2, g3, g4, g5, g6]
def isCode : Jvm.Cond → Bool
  | .code _ _ _ _ => true
  | _ => false
theorem all_split {L : List Jvm.Cond} {P : Jvm.Cond → Bool} (h1 : L.all (fun c => isCode c || P c) = true) (h2 : ∀ c ∈ L.filter isCode, P c = true) : L.all P = true := by
  refine List.all_eq_true.mpr fun c hc => ?_
  have h := List.all_eq_true.mp h1 c hc
  rcases Bool.eq_false_or_eq_true (isCode c) with hi | hi
  · exact h2 c (List.mem_filter.mpr ⟨hc, hi⟩)
  · simpa [hi] using h
set_option maxRecDepth 65536 in
theorem w_c0 : (Jvm.Cond.code x code maxLocals ret).before args0 about1 = true := code_word (m := ⟨1, 1⟩) (meth := k1m1) (c := k1c1) (by decide +kernel) rfl rfl rfl (by decide +kernel)
set_option maxRecDepth 65536 in
theorem w_c1 : (Jvm.Cond.code ({ cls := "org/tagwright/core/Utf8", name := "sequenceLength", desc := "([BII)I" } : Jvm.MethodName) prog_60_method_2_code (10 : Nat) (Option.some Jvm.ClassFile.FieldType.int)).before args0 about1 = true := code_word (m := ⟨2, 1⟩) (meth := k2m1) (c := k2c1) (by decide +kernel) rfl rfl rfl (by decide +kernel)
set_option maxRecDepth 65536 in
theorem w_c2 : (Jvm.Cond.code ({ cls := "org/tagwright/core/Utf8SequenceLengthPinLaw", name := "expected", desc := "([BII)I" } : Jvm.MethodName) method_3_code (10 : Nat) (Option.some Jvm.ClassFile.FieldType.int)).before args0 about1 = true := code_word (m := ⟨1, 2⟩) (meth := k1m2) (c := k1c2) (by decide +kernel) rfl rfl rfl (by decide +kernel)
def codes1 : List Jvm.Cond := [Jvm.Cond.code x code maxLocals ret, Jvm.Cond.code ({ cls := "org/tagwright/core/Utf8", name := "sequenceLength", desc := "([BII)I" } : Jvm.MethodName) prog_60_method_2_code (10 : Nat) (Option.some Jvm.ClassFile.FieldType.int), Jvm.Cond.code ({ cls := "org/tagwright/core/Utf8SequenceLengthPinLaw", name := "expected", desc := "([BII)I" } : Jvm.MethodName) method_3_code (10 : Nat) (Option.some Jvm.ClassFile.FieldType.int)]
set_option maxRecDepth 65536 in
theorem codes_eq : words1.filter isCode = codes1 := rfl
theorem w_codes : ∀ c ∈ words1.filter isCode, c.before args0 about1 = true := by
  rw [codes_eq]
  intro c hc
  simp only [codes1, List.mem_cons, List.not_mem_nil, or_false] at hc
  rcases hc with rfl | rfl | rfl
  · exact w_c0
  · exact w_c1
  · exact w_c2
set_option maxRecDepth 65536 in
theorem w_t1 : words1.all (fun c => isCode c || c.before args0 about1) = true := by decide +kernel
theorem w_tables : (allAtoms (Jvm.Cond.code x code maxLocals ret :: tables_1)).before args0 about1 = true := by
  rw [allAtoms_all]
  show words1.all (fun c => c.before args0 about1) = true
  refine all_split ?_ w_codes
  rw [w_t1]
set_option maxRecDepth 65536 in
theorem w_case : (Jvm.Cond.and given_1 narrow_1).before args0 about1 = true := by decide +kernel
theorem w_applies : (headSpec (Jvm.Cond.code x code maxLocals ret :: tables_1) room_1).applies x e0.platform about1 = true :=
  (Spec.applies_iff w_frames).mpr ⟨w_running, w_runnable, w_alone, w_named, w_hears, w_ripe, w_room, w_tables⟩
theorem atStart : AtStart classFile x code maxLocals ret World_1 tables_1 room_1 Calls_1 rest_1 Pre_1 launch0 p0 e0 about1 theMethod args0 below0 :=
  ⟨lists_1, trivial, launch0.admits_env _ _ _, launch0.least_env, fairChoices_fair.cas, fairChoices_fair.clock, w_frames, w_args, w_heap, w_applies, trivial, trivial, w_case⟩
end start1
theorem witness_1 : WitnessClaimed_1 := ⟨start1.p0, start1.e0, start1.about1, start1.theMethod, start1.args0, start1.below0, start1.atStart⟩
end Jvm.Pilot.@@N@@
