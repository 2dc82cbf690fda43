import JvmDerived
import JvmDerived.Pilot.@@N@@Statement
import JvmDerived.Pilot.@@N@@Code
set_option linter.unusedVariables false
set_option linter.unusedSimpArgs false
namespace Jvm.Pilot.@@N@@
open Jvm Jvm.ClassFile Sem Op Lib Jvm.Free Jvm.Stand Jvm.LawKit Jvm.RoadKit Bundle Jvm.Pilot.@@N@@.Jvm.D
section OwnKit
variable {p : Program} {l : Launch} {e : Env} {R : Room} {s : State} {m : MethodId} {args : Array Value} {below : List Frame} {meth : Method} {c : Code} {T : State} {locs : List Loc} {cells slots : Nat}
/-- from the state A the body runs to its end and leaves what Q says -/
def own_Go (p : Program) (e : Env) (below : List Frame) (s : State) (Q : Option Value → Heap → List Loc → Prop) (kc ks : Nat) (A : State) : Prop :=
  ∃ s₂ o, Steps p.tables e below A s₂ ∧ s₂.status = .running ∧ Ended s₂ below o ∧ ∃ v L, o = .returned v ∧ Q v s₂.heap L ∧ FrameEnd s o s₂ L kc ks
theorem own_go {Q : Option Value → Heap → List Loc → Prop} {kc ks : Nat} {A B : State} (h : ∀ t, Steps p.tables e below B t → Steps p.tables e below A t) (k : own_Go p e below s Q kc ks B) : own_Go p e below s Q kc ks A := by
  obtain ⟨s₂, o, h1, h2⟩ := k
  exact ⟨s₂, o, h _ h1, h2⟩
/-- from the state A the body runs to the frame g', the heap as it was -/
def own_Arm (p : Program) (l : Launch) (e : Env) (R : Room) (s : State) (m : MethodId) (args : Array Value) (below : List Frame) (meth : Method) (c : Code) (cells slots n0 : Nat) (h : Heap) (g' : JFrame) (A : State) : Prop :=
  ∃ (T' : State) (locs' : List Loc), Stand p l e R s m args below meth c T' locs' cells slots ∧ Fr n0 locs' ∧ T'.heap = h ∧ ∀ t, Steps p.tables e below (T'.setTop g') t → Steps p.tables e below A t
theorem own_arm {n0 : Nat} {h : Heap} {g' : JFrame} {A B : State} (k1 : ∀ t, Steps p.tables e below B t → Steps p.tables e below A t) (k : own_Arm p l e R s m args below meth c cells slots n0 h g' B) : own_Arm p l e R s m args below meth c cells slots n0 h g' A := by
  obtain ⟨T', locs', h1, h2, h3, h4⟩ := k
  exact ⟨T', locs', h1, h2, h3, fun t kt => k1 t (h4 t kt)⟩
theorem own_armEnd {n0 : Nat} {h : Heap} {g g' : JFrame} (X : Stand p l e R s m args below meth c T locs cells slots) (N : Fr n0 locs) (eT : T.heap = h) (q : g' = g) : own_Arm p l e R s m args below meth c cells slots n0 h g' (T.setTop g) :=
  ⟨T, locs, X, N, eT, fun t kt => q ▸ kt⟩
theorem own_mrg {n0 : Nat} {h : Heap} {g g' : JFrame} (X : Stand p l e R s m args below meth c T locs cells slots) (k : own_Arm p l e R s m args below meth c cells slots n0 h g' (T.setTop g)) :
    ∃ (T' : State) (locs' : List Loc), Stand p l e R s m args below meth c T' locs' cells slots ∧ Fr n0 locs' ∧ T'.heap = h ∧ ∀ t, Steps p.tables e below (T'.setTop g') t → Steps p.tables e below (T.setTop g) t := k
theorem own_leave {Q : Option Value → Heap → List Loc → Prop} {kc ks : Nat} {A : State} {v : Option Value} (X : Stand p l e R s m args below meth c T locs cells slots) (hv : meth.sig.returnType = none → v = none) (hlk : meth.locks = false)
    (hc : cells ≤ kc) (hs : slots ≤ ks) (hQ : Q v T.heap locs) (k : ∀ fs, (∀ (f : JFrame) (acts : List Action), f.method = m → f.locked = none → f.entered = [] → (doReturn e (T.setTop f) acts v).1 = T.setFrames fs) → Steps p.tables e below A (T.setFrames fs)) : own_Go p e below s Q kc ks A := by
  obtain ⟨fs, hr, hrun, hended, hW, hsame⟩ := X.leave (v := v) hv hlk
  exact ⟨_, _, k fs hr, hrun, hended, _, _, rfl, hQ, ⟨_, rfl⟩, hW, hsame.mono hc hs⟩
theorem own_retI {Q : Option Value → Heap → List Loc → Prop} {kc ks pc : Nat} {Ls : Array Slot} {z : Int32} {rest : List Value} (X : Stand p l e R s m args below meth c T locs cells slots) (hx : p.tables.exec = Jvm.exec) (hret : meth.sig.returnType = some .int) (hlk : meth.locks = false)
    (hd : decode c.code pc = .ok (.ireturn, 1)) (hc : cells ≤ kc) (hs : slots ≤ ks) (hQ : Q (some (.int z)) T.heap locs) : own_Go p e below s Q kc ks (T.setTop (mkF m pc Ls (.int z :: rest))) := by
  refine own_leave X (fun h => by rw [hret] at h; cases h) hlk hc hs hQ fun fs hl => ?_
  have hm' : T.vm.method? m = some meth := X.method'
  have hn : narrow .int (.int z) = .int z := rfl
  show Steps p.tables e below (T.setTop { method := m, pc := pc, locals := Ls, stack := _ :: rest, locked := none }) _
  jvm_step X.here [X.here.top, hx, hd, hm', hret, hn]
  first | (intro acts; rw [hl _ acts rfl rfl rfl]) | rw [hl _ _ rfl rfl rfl]
  exact Steps.refl _
theorem own_retN {Q : Option Value → Heap → List Loc → Prop} {kc ks pc : Nat} {Ls : Array Slot} {z : Int32} {rest : List Value} {t : FieldType} (X : Stand p l e R s m args below meth c T locs cells slots) (hx : p.tables.exec = Jvm.exec) (hret : meth.sig.returnType = some t) (ht : t = .boolean ∨ t = .byte ∨ t = .char ∨ t = .short) (hlk : meth.locks = false)
    (hd : decode c.code pc = .ok (.ireturn, 1)) (hc : cells ≤ kc) (hs : slots ≤ ks) (hQ : Q (some (.int (nar t z))) T.heap locs) : own_Go p e below s Q kc ks (T.setTop (mkF m pc Ls (.int z :: rest))) :=
  own_leave X (fun h => by rw [hret] at h; cases h) hlk hc hs hQ fun fs hl => retN X hx (t := t) hret ht hd hl
theorem own_nar01 {z : Int32} (h : z = 0 ∨ z = 1) : nar .boolean z = z := by rcases h with rfl | rfl <;> rfl
theorem own_retZ {Q : Option Value → Heap → List Loc → Prop} {kc ks pc : Nat} {Ls : Array Slot} {z : Int32} {rest : List Value} (X : Stand p l e R s m args below meth c T locs cells slots) (hx : p.tables.exec = Jvm.exec) (hret : meth.sig.returnType = some .boolean) (hlk : meth.locks = false)
    (hd : decode c.code pc = .ok (.ireturn, 1)) (hc : cells ≤ kc) (hs : slots ≤ ks) (hz : z = 0 ∨ z = 1) (hQ : Q (some (.int z)) T.heap locs) : own_Go p e below s Q kc ks (T.setTop (mkF m pc Ls (.int z :: rest))) :=
  own_retN X hx hret (Or.inl rfl) hlk hd hc hs (by rw [own_nar01 hz]; exact hQ)
theorem own_retJ {Q : Option Value → Heap → List Loc → Prop} {kc ks pc : Nat} {Ls : Array Slot} {z : Int64} (X : Stand p l e R s m args below meth c T locs cells slots) (hx : p.tables.exec = Jvm.exec) (hret : meth.sig.returnType = some .long) (hlk : meth.locks = false)
    (hd : decode c.code pc = .ok (.lreturn, 1)) (hc : cells ≤ kc) (hs : slots ≤ ks) (hQ : Q (some (.long z)) T.heap locs) : own_Go p e below s Q kc ks (T.setTop (mkF m pc Ls [.long z])) :=
  own_leave X (fun h => by rw [hret] at h; cases h) hlk hc hs hQ fun fs hl => X.lreturnOut hx hret hd hl
theorem own_retA {Q : Option Value → Heap → List Loc → Prop} {kc ks pc : Nat} {Ls : Array Slot} {w : Value} {t : FieldType} {rest : List Value} (X : Stand p l e R s m args below meth c T locs cells slots) (hx : p.tables.exec = Jvm.exec) (hret : meth.sig.returnType = some t) (ht : t.isReference = true) (hw : w.isRef = true) (hlk : meth.locks = false)
    (hd : decode c.code pc = .ok (.areturn, 1)) (hc : cells ≤ kc) (hs : slots ≤ ks) (hQ : Q (some w) T.heap locs) : own_Go p e below s Q kc ks (T.setTop (mkF m pc Ls (w :: rest))) := by
  refine own_leave X (fun h => by rw [hret] at h; cases h) hlk hc hs hQ fun fs hl => ?_
  have hm' : T.vm.method? m = some meth := X.method'
  show Steps p.tables e below (T.setTop { method := m, pc := pc, locals := Ls, stack := _ :: rest, locked := none }) _
  rcases ref_cases hw with rfl | ⟨a, rfl⟩
  all_goals
    jvm_step X.here [X.here.top, hx, hd, hm', hret, Value.isRef, ht]
    first | (intro acts; rw [hl _ acts rfl rfl rfl]) | rw [hl _ _ rfl rfl rfl]
    exact Steps.refl _
theorem own_retV {Q : Option Value → Heap → List Loc → Prop} {kc ks pc : Nat} {Ls : Array Slot} (X : Stand p l e R s m args below meth c T locs cells slots) (hx : p.tables.exec = Jvm.exec) (hret : meth.sig.returnType = none) (hlk : meth.locks = false)
    (hd : decode c.code pc = .ok (.return_, 1)) (hc : cells ≤ kc) (hs : slots ≤ ks) (hQ : Q none T.heap locs) : own_Go p e below s Q kc ks (T.setTop (mkF m pc Ls [])) :=
  own_leave X (fun _ => rfl) hlk hc hs hQ fun fs hl => X.returnOut hx hret hd hl
theorem own_getFR {Z : State} {a0 : Array Value} {h : Heap} (X : Stand p l e R s m args below meth c T locs cells slots) (hx : p.tables.exec = Jvm.exec) (hZ : Z.Warmed39 s.vm) {own O n d : String} {index : Nat} (hown : s.vm.findClass own = some m.cls) (w : (Jvm.Cond.fieldRef own index O n d).before a0 Z = true)
    (eT : T.heap = h) {a : Addr} {v : Value} (F : Fld Z h a O n d v) {g : JFrame} (hg : g.method = m) {rest : List Value} (hs : g.stack = .ref a :: rest) (hd : decode c.code g.pc = .ok (.getfield index, 3)) (target : State) (k : Steps p.tables e below (T.setTop { g with pc := g.pc + 3, stack := v :: rest }) target) : Steps p.tables e below (T.setTop g) target := by
  obtain ⟨cell, cf, kc, i, f, h1, h2, h3, h4, -, -, h7⟩ := F
  have hW : Z.Warmed39 T.vm := wtrans hZ X.warmed
  have w2 := Cond.fieldRef_warmed39 hW w
  obtain ⟨k', hi, -⟩ := State.fieldFound?_setVm (s := Z) hW.alike h2
  have hc : (Z.setVm T.vm).vm.findClass own = some m.cls := by show T.vm.findClass own = _; rw [X.warmed.alike.findClass]; exact hown
  obtain ⟨c1, k1, i1, f1, e1, hr⟩ := Cond.fieldRef_spec hc w2
  cases hi.symm.trans e1
  exact (X.getfieldR hx hg (cF := cf) (field := f) hr h3 hs (by rw [eT]; exact h1) h4 h7 hd (Steps.refl _)).trans k
theorem own_ite01 {c : Prop} [Decidable c] {a b : Int32} (ha : a = 0 ∨ a = 1) (hb : b = 0 ∨ b = 1) : (if c then a else b) = 0 ∨ (if c then a else b) = 1 := by split <;> assumption
end OwnKit
theorem own_remI (a b : Int32) : a - a / b * b = a % b := by
  apply Int32.toInt_inj.mp
  rw [Int32.toInt_sub, Int32.toInt_mul, Int32.toInt_div, Int32.toInt_mod]
  rw [Int.bmod_mul_bmod, Int.sub_bmod_bmod]
  have e : a.toInt - a.toInt.tdiv b.toInt * b.toInt = a.toInt.tmod b.toInt := by
    have := Int.mul_tdiv_add_tmod a.toInt b.toInt
    rw [Int.mul_comm] at this
    omega
  rw [e, ← Int32.toInt_mod]
  exact Int.bmod_eq_of_le (by have := Int32.le_toInt (a % b); omega) (by have := Int32.toInt_lt (a % b); omega)
theorem own_remJ (a b : Int64) : a - a / b * b = a % b := by
  apply Int64.toInt_inj.mp
  rw [Int64.toInt_sub, Int64.toInt_mul, Int64.toInt_div, Int64.toInt_mod]
  rw [Int.bmod_mul_bmod, Int.sub_bmod_bmod]
  have e : a.toInt - a.toInt.tdiv b.toInt * b.toInt = a.toInt.tmod b.toInt := by
    have := Int.mul_tdiv_add_tmod a.toInt b.toInt
    rw [Int.mul_comm] at this
    omega
  rw [e, ← Int64.toInt_mod]
  exact Int.bmod_eq_of_le (by have := Int64.le_toInt (a % b); omega) (by have := Int64.toInt_lt (a % b); omega)
theorem own_lc_eq {a b : Int64} (h : a = b) : lcmpW a b = 0 := by subst h; simp [lcmpW]
theorem own_lc_neq {a b : Int64} (h : ¬ (a = b)) : ¬ (lcmpW a b = 0) := by unfold lcmpW; split <;> first | decide | (rw [if_neg h]; decide)
theorem own_lc_lt {a b : Int64} (h : a < b) : lcmpW a b < 0 := by
  have h1 : ¬ (a > b) := fun q => Int64.lt_irrefl (Int64.lt_trans h q)
  have h2 : ¬ (a = b) := fun q => by subst q; exact Int64.lt_irrefl h
  rw [lcmpW, if_neg h1, if_neg h2]; decide
theorem own_lc_nlt {a b : Int64} (h : ¬ (a < b)) : ¬ (lcmpW a b < 0) := by
  unfold lcmpW
  split
  · decide
  · rename_i h1
    split
    · decide
    · rename_i h2; exact absurd (Int64.le_antisymm (Int64.not_lt.mp h1) (Int64.not_lt.mp h)) h2
theorem own_lc_gt {a b : Int64} (h : b < a) : (0 : Int32) < lcmpW a b := by rw [lcmpW, if_pos h]; decide
theorem own_lc_ngt {a b : Int64} (h : ¬ (b < a)) : ¬ ((0 : Int32) < lcmpW a b) := by
  rw [lcmpW, if_neg h]; split <;> decide
theorem own_rn {w : Value} {C : String} (h : w.isRef = true) : narrow (.object C) w = w := by rcases ref_cases h with rfl | ⟨a, rfl⟩ <;> rfl
theorem own_rf {w : Value} {C : String} (h : w.isRef = true) : fits (.object C) w = true := by rcases ref_cases h with rfl | ⟨a, rfl⟩ <;> rfl
theorem own_plainE {Z : State} {h : Heap} {a : Addr} {C : String} (E : Exa Z h a C) : ∀ cell : Cell, h[a]? = some cell → cell.vm.isStatics = false := fun cell hc => by
  obtain ⟨c, k, h1, -, -, h4, -⟩ := E
  cases h1.symm.trans hc; exact h4
theorem own_staKeep {Z : State} {h h' : Heap} {C n d : String} {v : Value} {ws : List Addr} (F : Sta Z h C n d v) (K : Keep h h' ws) (q : ∀ x ∈ ws, ∀ cell : Cell, h[x]? = some cell → cell.vm.isStatics = false) : Sta Z h' C n d v := by
  obtain ⟨cf, i, k, f, st, cell, h1, h2, h3, h4, h5, h6, h7⟩ := F
  exact ⟨cf, i, k, f, st, cell, h1, h2, h3, h4, K.2.1 st cell h5 (fun hm => by rw [q st hm cell h5] at h6; cases h6), h6, h7⟩
def own_up {α : Type} (f : Nat → α) (i : Nat) (v : α) : Nat → α := fun k => if k = i then v else f k
def own_AI (Z : State) (h : Heap) (a : Addr) (ty : FieldType) (n : Nat) (f : Nat → Int32) : Prop := ∃ c : Cell, Arr Z h a c ty ∧ c.slots.size = n ∧ n < 2 ^ 31 ∧ ∀ j, j < n → c.slots[j]? = some (.int (f j))
theorem own_AI.lt {Z : State} {h : Heap} {a : Addr} {ty : FieldType} {n : Nat} {f : Nat → Int32} (F : own_AI Z h a ty n f) : a < h.size := by obtain ⟨c, A, -⟩ := F; exact A.lt
theorem own_AI.ext {Z : State} {h h' : Heap} {a : Addr} {ty : FieldType} {n : Nat} {f : Nat → Int32} (F : own_AI Z h a ty n f) (E : Ext h h') : own_AI Z h' a ty n f := by obtain ⟨c, A, r⟩ := F; exact ⟨c, A.ext E, r⟩
theorem own_AI.other {Z : State} {h h' : Heap} {a b : Addr} {ty : FieldType} {n sl : Nat} {w : Value} {f : Nat → Int32} (F : own_AI Z h a ty n f) (W : Wr h h' b sl w) (q : a ≠ b) : own_AI Z h' a ty n f := by obtain ⟨c, A, r⟩ := F; exact ⟨c, A.other W q, r⟩
theorem own_AI.keep {Z : State} {h h' : Heap} {a : Addr} {ty : FieldType} {n : Nat} {ws : List Addr} {f : Nat → Int32} (F : own_AI Z h a ty n f) (K : Keep h h' ws) (q : a ∉ ws) : own_AI Z h' a ty n f := by obtain ⟨c, A, r⟩ := F; exact ⟨c, ⟨K.2.1 a c A.1 q, A.2⟩, r⟩
theorem own_plainAI {Z : State} {h : Heap} {a : Addr} {ty : FieldType} {n : Nat} {f : Nat → Int32} (F : own_AI Z h a ty n f) : ∀ cell : Cell, h[a]? = some cell → cell.vm.isStatics = false := fun cell hc => by
  obtain ⟨c, A, -⟩ := F
  cases A.1.symm.trans hc; exact A.plain
theorem own_AI.wr {Z : State} {h h' : Heap} {a : Addr} {ty : FieldType} {n i : Nat} {x : Int32} {f : Nat → Int32} (F : own_AI Z h a ty n f) (W : Wr h h' a i (.int x)) : own_AI Z h' a ty n (own_up f i x) := by
  obtain ⟨c, A, S, B, H⟩ := F
  refine ⟨_, A.same W, by rw [sz_set]; exact S, B, fun j hj => ?_⟩
  show (c.slots.setIfInBounds i _)[j]? = _
  rw [Array.getElem?_setIfInBounds]
  by_cases q : i = j
  · subst q
    rw [if_pos rfl, if_pos (by rw [S]; exact hj)]; simp [own_up]
  · rw [if_neg q, H j hj, own_up, if_neg (fun e => q e.symm)]
theorem own_AI.new {Z : State} {h : Heap} {a : Addr} {k : ClassId} {ty : FieldType} {z : Int32} {n : Nat} (A : Arr Z h a (newA k ty z) ty) (hd : defaultValue ty = .int 0) (hn : z.toNatClampNeg = n) : own_AI Z h a ty n (fun _ => 0) := by
  refine ⟨_, A, by rw [sz_new]; exact hn, ?_, fun j hj => ?_⟩
  · have := Int32.toInt_lt z; rw [← hn]; unfold Int32.toNatClampNeg; omega
  · have hs : (newA k ty z).slots.size = n := by rw [sz_new]; exact hn
    simp only [newA] at hs ⊢
    rw [Array.getElem?_replicate, if_pos (by rw [hn]; exact hj), hd]
def own_AJ (Z : State) (h : Heap) (a : Addr) (ty : FieldType) (n : Nat) (f : Nat → Int64) : Prop := ∃ c : Cell, Arr Z h a c ty ∧ c.slots.size = n ∧ n < 2 ^ 31 ∧ ∀ j, j < n → c.slots[j]? = some (.long (f j))
theorem own_AJ.lt {Z : State} {h : Heap} {a : Addr} {ty : FieldType} {n : Nat} {f : Nat → Int64} (F : own_AJ Z h a ty n f) : a < h.size := by obtain ⟨c, A, -⟩ := F; exact A.lt
theorem own_AJ.ext {Z : State} {h h' : Heap} {a : Addr} {ty : FieldType} {n : Nat} {f : Nat → Int64} (F : own_AJ Z h a ty n f) (E : Ext h h') : own_AJ Z h' a ty n f := by obtain ⟨c, A, r⟩ := F; exact ⟨c, A.ext E, r⟩
theorem own_AJ.other {Z : State} {h h' : Heap} {a b : Addr} {ty : FieldType} {n sl : Nat} {w : Value} {f : Nat → Int64} (F : own_AJ Z h a ty n f) (W : Wr h h' b sl w) (q : a ≠ b) : own_AJ Z h' a ty n f := by obtain ⟨c, A, r⟩ := F; exact ⟨c, A.other W q, r⟩
theorem own_AJ.keep {Z : State} {h h' : Heap} {a : Addr} {ty : FieldType} {n : Nat} {ws : List Addr} {f : Nat → Int64} (F : own_AJ Z h a ty n f) (K : Keep h h' ws) (q : a ∉ ws) : own_AJ Z h' a ty n f := by obtain ⟨c, A, r⟩ := F; exact ⟨c, ⟨K.2.1 a c A.1 q, A.2⟩, r⟩
theorem own_plainAJ {Z : State} {h : Heap} {a : Addr} {ty : FieldType} {n : Nat} {f : Nat → Int64} (F : own_AJ Z h a ty n f) : ∀ cell : Cell, h[a]? = some cell → cell.vm.isStatics = false := fun cell hc => by
  obtain ⟨c, A, -⟩ := F
  cases A.1.symm.trans hc; exact A.plain
theorem own_AJ.wr {Z : State} {h h' : Heap} {a : Addr} {ty : FieldType} {n i : Nat} {x : Int64} {f : Nat → Int64} (F : own_AJ Z h a ty n f) (W : Wr h h' a i (.long x)) : own_AJ Z h' a ty n (own_up f i x) := by
  obtain ⟨c, A, S, B, H⟩ := F
  refine ⟨_, A.same W, by rw [sz_set]; exact S, B, fun j hj => ?_⟩
  show (c.slots.setIfInBounds i _)[j]? = _
  rw [Array.getElem?_setIfInBounds]
  by_cases q : i = j
  · subst q
    rw [if_pos rfl, if_pos (by rw [S]; exact hj)]; simp [own_up]
  · rw [if_neg q, H j hj, own_up, if_neg (fun e => q e.symm)]
theorem own_AJ.new {Z : State} {h : Heap} {a : Addr} {k : ClassId} {ty : FieldType} {z : Int32} {n : Nat} (A : Arr Z h a (newA k ty z) ty) (hd : defaultValue ty = .long 0) (hn : z.toNatClampNeg = n) : own_AJ Z h a ty n (fun _ => 0) := by
  refine ⟨_, A, by rw [sz_new]; exact hn, ?_, fun j hj => ?_⟩
  · have := Int32.toInt_lt z; rw [← hn]; unfold Int32.toNatClampNeg; omega
  · have hs : (newA k ty z).slots.size = n := by rw [sz_new]; exact hn
    simp only [newA] at hs ⊢
    rw [Array.getElem?_replicate, if_pos (by rw [hn]; exact hj), hd]
section OwnArr
variable {p : Program} {l : Launch} {e : Env} {R : Room} {s : State} {m : MethodId} {args : Array Value} {below : List Frame} {meth : Method} {c : Code} {T : State} {locs : List Loc} {cells slots : Nat} {Z : State} {h : Heap}
theorem own_inb {j : Int32} {n k : Nat} (S : k = n) (hj : ¬ j < 0 ∧ j.toNatClampNeg < n) : ¬ (j < 0 ∨ k ≤ j.toNatClampNeg) := fun q => q.elim hj.1 (fun u => absurd hj.2 (by omega))
theorem own_ldI (X : Stand p l e R s m args below meth c T locs cells slots) (hx : p.tables.exec = Jvm.exec) (hZ : Z.Warmed39 s.vm) (eT : T.heap = h) {a : Addr} {n : Nat} {f : Nat → Int32} (A : own_AI Z h a .int n f) {j : Int32} (hj : ¬ j < 0 ∧ j.toNatClampNeg < n)
    {g : JFrame} (hg : g.method = m) {rest : List Value} (hs : g.stack = .int j :: .ref a :: rest) (hd : decode c.code g.pc = .ok (.iaload, 1)) (target : State) (k : Steps p.tables e below (T.setTop { g with pc := g.pc + 1, stack := .int (f j.toNatClampNeg) :: rest }) target) : Steps p.tables e below (T.setTop g) target := by
  obtain ⟨c', Ar, S, -, H⟩ := A
  exact X.iaload hx (by rw [eT]; exact Ar.1) (State.isArrayOf_alike hZ.alike Ar.2.1) Ar.2.2 (own_inb S hj) (H _ hj.2) hg hs hd target k
theorem own_ldB (X : Stand p l e R s m args below meth c T locs cells slots) (hx : p.tables.exec = Jvm.exec) (hZ : Z.Warmed39 s.vm) (eT : T.heap = h) {a : Addr} {n : Nat} {f : Nat → Int32} (A : own_AI Z h a .byte n f) {j : Int32} (hj : ¬ j < 0 ∧ j.toNatClampNeg < n)
    {g : JFrame} (hg : g.method = m) {rest : List Value} (hs : g.stack = .int j :: .ref a :: rest) (hd : decode c.code g.pc = .ok (.baload, 1)) (target : State) (k : Steps p.tables e below (T.setTop { g with pc := g.pc + 1, stack := .int (f j.toNatClampNeg) :: rest }) target) : Steps p.tables e below (T.setTop g) target := by
  obtain ⟨c', Ar, S, -, H⟩ := A
  exact X.baloadBytes hx (by rw [eT]; exact Ar.1) (State.isArrayOf_alike hZ.alike Ar.2.1) Ar.2.2 (own_inb S hj) (H _ hj.2) hg hs hd target k
theorem own_ldJ (X : Stand p l e R s m args below meth c T locs cells slots) (hx : p.tables.exec = Jvm.exec) (hZ : Z.Warmed39 s.vm) (eT : T.heap = h) {a : Addr} {n : Nat} {f : Nat → Int64} (A : own_AJ Z h a .long n f) {j : Int32} (hj : ¬ j < 0 ∧ j.toNatClampNeg < n)
    {g : JFrame} (hg : g.method = m) {rest : List Value} (hs : g.stack = .int j :: .ref a :: rest) (hd : decode c.code g.pc = .ok (.laload, 1)) (target : State) (k : Steps p.tables e below (T.setTop { g with pc := g.pc + 1, stack := .long (f j.toNatClampNeg) :: rest }) target) : Steps p.tables e below (T.setTop g) target := by
  obtain ⟨c', Ar, S, -, H⟩ := A
  exact X.laload hx (by rw [eT]; exact Ar.1) (State.isArrayOf_alike hZ.alike Ar.2.1) Ar.2.2 (own_inb S hj) (H _ hj.2) hg hs hd target k
theorem own_lenI (X : Stand p l e R s m args below meth c T locs cells slots) (hx : p.tables.exec = Jvm.exec) (hZ : Z.Warmed39 s.vm) (eT : T.heap = h) {a : Addr} {ty : FieldType} {n : Nat} {f : Nat → Int32} (A : own_AI Z h a ty n f)
    {g : JFrame} (hg : g.method = m) {rest : List Value} (hs : g.stack = .ref a :: rest) (hd : decode c.code g.pc = .ok (.arraylength, 1)) (target : State) (k : Steps p.tables e below (T.setTop { g with pc := g.pc + 1, stack := .int (n.toInt32) :: rest }) target) : Steps p.tables e below (T.setTop g) target := by
  obtain ⟨c', Ar, S, -, H⟩ := A
  exact X.arraylength hx (by rw [eT]; exact Ar.1) (State.isArrayOf_alike hZ.alike Ar.2.1) hg hs hd target (by rw [S]; exact k)
theorem own_lenJ (X : Stand p l e R s m args below meth c T locs cells slots) (hx : p.tables.exec = Jvm.exec) (hZ : Z.Warmed39 s.vm) (eT : T.heap = h) {a : Addr} {ty : FieldType} {n : Nat} {f : Nat → Int64} (A : own_AJ Z h a ty n f)
    {g : JFrame} (hg : g.method = m) {rest : List Value} (hs : g.stack = .ref a :: rest) (hd : decode c.code g.pc = .ok (.arraylength, 1)) (target : State) (k : Steps p.tables e below (T.setTop { g with pc := g.pc + 1, stack := .int (n.toInt32) :: rest }) target) : Steps p.tables e below (T.setTop g) target := by
  obtain ⟨c', Ar, S, -, H⟩ := A
  exact X.arraylength hx (by rw [eT]; exact Ar.1) (State.isArrayOf_alike hZ.alike Ar.2.1) hg hs hd target (by rw [S]; exact k)
theorem own_stI (X : Stand p l e R s m args below meth c T locs cells slots) (hx : p.tables.exec = Jvm.exec) (hZ : Z.Warmed39 s.vm) (eT : T.heap = h) {a : Addr} {n : Nat} {f : Nat → Int32} (A : own_AI Z h a .int n f) {j x : Int32} (hj : ¬ j < 0 ∧ j.toNatClampNeg < n)
    {g : JFrame} (hg : g.method = m) {rest : List Value} (hs : g.stack = .int x :: .int j :: .ref a :: rest) (hd : decode c.code g.pc = .ok (.iastore, 1)) :
    ∃ T' h', Stand p l e R s m args below meth c T' (locs ++ [⟨a, j.toNatClampNeg⟩]) cells slots ∧ T'.heap = h' ∧ Wr h h' a j.toNatClampNeg (.int x) ∧ own_AI Z h' a .int n (own_up f j.toNatClampNeg x) ∧ ∀ target, Steps p.tables e below (T'.setTop { g with pc := g.pc + 1, stack := rest }) target → Steps p.tables e below (T.setTop g) target := by
  have A2 := A
  obtain ⟨c', Ar, S, -, H⟩ := A
  obtain ⟨T', h', X', e', W, st⟩ := stI X hx hZ eT Ar (j := j) (x := x) (own_inb S hj) hg hs hd
  exact ⟨T', h', X', e', W, A2.wr W, st⟩
theorem own_stB (X : Stand p l e R s m args below meth c T locs cells slots) (hx : p.tables.exec = Jvm.exec) (hZ : Z.Warmed39 s.vm) (eT : T.heap = h) {a : Addr} {n : Nat} {f : Nat → Int32} (A : own_AI Z h a .byte n f) {j x : Int32} (hj : ¬ j < 0 ∧ j.toNatClampNeg < n)
    {g : JFrame} (hg : g.method = m) {rest : List Value} (hs : g.stack = .int x :: .int j :: .ref a :: rest) (hd : decode c.code g.pc = .ok (.bastore, 1)) :
    ∃ T' h', Stand p l e R s m args below meth c T' (locs ++ [⟨a, j.toNatClampNeg⟩]) cells slots ∧ T'.heap = h' ∧ Wr h h' a j.toNatClampNeg (.int (nar .byte x)) ∧ own_AI Z h' a .byte n (own_up f j.toNatClampNeg (nar .byte x)) ∧ ∀ target, Steps p.tables e below (T'.setTop { g with pc := g.pc + 1, stack := rest }) target → Steps p.tables e below (T.setTop g) target := by
  have A2 := A
  obtain ⟨c', Ar, S, -, H⟩ := A
  obtain ⟨T', h', X', e', W, st⟩ := stB X hx hZ eT Ar (j := j) (x := x) (own_inb S hj) hg hs hd
  exact ⟨T', h', X', e', W, A2.wr W, st⟩
theorem own_stC (X : Stand p l e R s m args below meth c T locs cells slots) (hx : p.tables.exec = Jvm.exec) (hZ : Z.Warmed39 s.vm) (eT : T.heap = h) {a : Addr} {n : Nat} {f : Nat → Int32} (A : own_AI Z h a .char n f) {j x : Int32} (hj : ¬ j < 0 ∧ j.toNatClampNeg < n)
    {g : JFrame} (hg : g.method = m) {rest : List Value} (hs : g.stack = .int x :: .int j :: .ref a :: rest) (hd : decode c.code g.pc = .ok (.castore, 1)) :
    ∃ T' h', Stand p l e R s m args below meth c T' (locs ++ [⟨a, j.toNatClampNeg⟩]) cells slots ∧ T'.heap = h' ∧ Wr h h' a j.toNatClampNeg (.int (nar .char x)) ∧ own_AI Z h' a .char n (own_up f j.toNatClampNeg (nar .char x)) ∧ ∀ target, Steps p.tables e below (T'.setTop { g with pc := g.pc + 1, stack := rest }) target → Steps p.tables e below (T.setTop g) target := by
  have A2 := A
  obtain ⟨c', Ar, S, -, H⟩ := A
  obtain ⟨T', h', X', e', W, st⟩ := stC X hx hZ eT Ar (j := j) (x := x) (own_inb S hj) hg hs hd
  exact ⟨T', h', X', e', W, A2.wr W, st⟩
theorem own_stJ (X : Stand p l e R s m args below meth c T locs cells slots) (hx : p.tables.exec = Jvm.exec) (hZ : Z.Warmed39 s.vm) (eT : T.heap = h) {a : Addr} {n : Nat} {f : Nat → Int64} (A : own_AJ Z h a .long n f) {j : Int32} {x : Int64} (hj : ¬ j < 0 ∧ j.toNatClampNeg < n)
    {g : JFrame} (hg : g.method = m) {rest : List Value} (hs : g.stack = .long x :: .int j :: .ref a :: rest) (hd : decode c.code g.pc = .ok (.lastore, 1)) :
    ∃ T' h', Stand p l e R s m args below meth c T' (locs ++ [⟨a, j.toNatClampNeg⟩]) cells slots ∧ T'.heap = h' ∧ Wr h h' a j.toNatClampNeg (.long x) ∧ own_AJ Z h' a .long n (own_up f j.toNatClampNeg x) ∧ ∀ target, Steps p.tables e below (T'.setTop { g with pc := g.pc + 1, stack := rest }) target → Steps p.tables e below (T.setTop g) target := by
  have A2 := A
  obtain ⟨c', Ar, S, -, H⟩ := A
  obtain ⟨T', h', X', e', W, st⟩ := stJ X hx hZ eT Ar (j := j) (x := x) (own_inb S hj) hg hs hd
  exact ⟨T', h', X', e', W, A2.wr W, st⟩
end OwnArr
theorem own_fldI {s : State} {args : Array Value} {t : Term} {u : Addr} {C n d : String} {k : Int32} (et : t.eval args s none [] s = some (.ref u)) (h : (Jvm.Cond.eq (.field t C n d) (.int k)).value args s none s [] = some true) : Fld s s.heap u C n d (.int k) := by
  obtain ⟨x, y, ha, hb, -, -⟩ := cmp_v (Or.inl h)
  have hy : y = .int k := (Option.some.inj ((Term.int_eval k).symm.trans hb)).symm
  subst hy
  refine Fld.start ?_
  rw [← fld_at (o := none) (idx := []) et, ha]
  simp only [Cond.value, ha, hb] at h
  cases x <;> simp_all
theorem own_fldN {s : State} {args : Array Value} {t : Term} {u : Addr} {C n d : String} (et : t.eval args s none [] s = some (.ref u)) (h : (Jvm.Cond.eq (.field t C n d) .null).value args s none s [] = some true) : Fld s s.heap u C n d .null :=
  Fld.start (by rw [← fld_at (o := none) (idx := []) et]; exact null_v h)
theorem own_fldR {s : State} {args : Array Value} {t t' : Term} {u u' : Addr} {C n d : String} (et : t.eval args s none [] s = some (.ref u)) (et' : t'.eval args s none [] s = some (.ref u')) (h : (Jvm.Cond.eq (.field t C n d) t').value args s none s [] = some true) : Fld s s.heap u C n d (.ref u') := by
  obtain ⟨x, y, ha, hb, -, -⟩ := cmp_v (Or.inl h)
  have hy : y = .ref u' := Option.some.inj (hb.symm.trans et')
  subst hy
  refine Fld.start ?_
  rw [← fld_at (o := none) (idx := []) et, ha]
  simp only [Cond.value, ha, hb] at h
  cases x <;> simp_all
theorem own_neI {s : State} {args : Array Value} {t : Term} {u k : Int32} (et : t.eval args s none [] s = some (.int u)) (h : (Jvm.Cond.not (Jvm.Cond.eq t (.int k))).value args s none s [] = some true) : ¬ (u = k) := fun q => by
  have q2 := not_v h
  have hb : (Term.int k).eval args s none [] s = some (.int k) := Term.int_eval k
  subst q
  simp only [Cond.value, et, hb] at q2
  simp at q2
theorem d1_0 : decode prog_28_method_4_code 0 = .ok (.aload_n 0, 1) := by decide +kernel
theorem d1_1 : decode prog_28_method_4_code 1 = .ok (.bipush 9, 2) := by decide +kernel
theorem d1_3 : decode prog_28_method_4_code 3 = .ok (.baload, 1) := by decide +kernel
theorem d1_4 : decode prog_28_method_4_code 4 = .ok (.lookupswitch 40 #[(32, 28), (97, 34)], 28) := by decide +kernel
theorem d1_32 : decode prog_28_method_4_code 32 = .ok (.getstatic 3, 3) := by decide +kernel
theorem d1_35 : decode prog_28_method_4_code 35 = .ok (.goto 10, 3) := by decide +kernel
theorem d1_45 : decode prog_28_method_4_code 45 = .ok (.areturn, 1) := by decide +kernel
theorem ef_1a (m : MethodId) (r0 : Addr) : entryFrame m #[(.ref r0)] 1 = mkF m 0 #[.val (.ref r0)] [] := by (first | (simp [entryFrame, mkF, argsToLocals, Value.category]; done) | rfl)
theorem pn0 : plainName "org/tagwright/core/CharacterCoding" = true := by first | (simp [plainName, overriddenIn]; done) | decide +kernel
def Q1a (Z : State) (r0 : Addr) (f : Nat → Int32) (u2 : Addr) (h0 : Heap) (n0 : Nat) (v : Option Value) (h : Heap) (L : List Loc) : Prop := v = some (.ref u2) ∧ Fr n0 L ∧ h = h0
set_option maxRecDepth 65536 in
set_option maxHeartbeats 40000000 in
theorem rm1a (l : Launch) (Z : State) (a0 : Array Value) (hw : ∀ d ∈ tables_1, d.before a0 Z = true) (ws : List Jvm.Cond) (r0 : Addr) (f : Nat → Int32) (u2 : Addr) (h0 : Heap) (n0 : Nat) (Z0 : n0 ≤ h0.size) (A_r0 : own_AI Z h0 r0 .byte 24 f) (hk32 : (f 9) = (32 : Int32)) (S_MARC_8 : Sta Z h0 "org/tagwright/core/CharacterCoding" "MARC_8" "Lorg/tagwright/core/CharacterCoding;" (.ref u2)) :
    MetFree l (⟨"org/tagwright/core/CharacterCoding", "of", "([B)Lorg/tagwright/core/CharacterCoding;"⟩ : MethodName) (head1 (Jvm.Cond.code (⟨"org/tagwright/core/CharacterCoding", "of", "([B)Lorg/tagwright/core/CharacterCoding;"⟩ : MethodName) prog_28_method_4_code 1 (some (.object "org/tagwright/core/CharacterCoding")) :: ws) ({ frames := 0, cells := 0, slots := 0, locals := 0 } : Room)) (fun a U => a = #[(.ref r0)] ∧ Z.Warmed39 U.vm ∧ U.heap = h0) (fun _ _ _ _ _ => True) (fun _ U o U' => ∃ v L, o = .returned v ∧ Q1a Z r0 f u2 h0 n0 v U'.heap L ∧ FrameEnd U o U' L ({ frames := 0, cells := 0, slots := 0, locals := 0 } : Room).cells ({ frames := 0, cells := 0, slots := 0, locals := 0 } : Room).slots) := by
  refine MetFree.of_bodySF (plainFor_of_name pn0) hisR ?_
  intro p e s m args below meth c s₁ Bd hml0 hP hK
  obtain ⟨rfl, hZ, hh⟩ := hP
  have hx := Bd.exec
  have hby := Bd.bytes
  have hml : c.maxLocals = 1 := hml0
  have hown : s.vm.findClass "org/tagwright/core/CharacterCoding" = some m.cls := findClass_of_methodNamed Bd.named
  have hnm := (name_of_methodNamed Bd.named Bd.method).1
  have X0 : Stand p l e ({ frames := 0, cells := 0, slots := 0, locals := 0 } : Room) s m #[(.ref r0)] below meth c s₁ [] 0 0 := Stand.of_body Bd
  have e0 : s₁.heap = h0 := by rw [← hh, Bd.state]; rfl
  have N0 := Fr.nil n0
  have K0 : Keep h0 h0 [] := Keep.refl h0 _
  show own_Go p e below s (Q1a Z r0 f u2 h0 n0) ({ frames := 0, cells := 0, slots := 0, locals := 0 } : Room).cells ({ frames := 0, cells := 0, slots := 0, locals := 0 } : Room).slots (s₁.setTop (entryFrame m #[(.ref r0)] 1))
  refine own_go (fun t k => castTop (ef_1a m r0) k) ?_
  have hin3_101 : ¬ (9 : Int32) < 0 ∧ (9 : Int32).toNatClampNeg < 24 := by decide
  have hgo102 : ∀ t, Steps p.tables e below (s₁.setTop (mkF m 4 #[.val (.ref r0)] [(.int (f 9))])) t → Steps p.tables e below (s₁.setTop (mkF m 0 #[.val (.ref r0)] [])) t := by
    intro t kt
    show Steps p.tables e below (s₁.setTop (mkF m 0 #[.val (.ref r0)] [])) _
    refine XS.aloadN X0.here hx rfl (hb hby d1_0) rfl rfl ?_
    show Steps p.tables e below (s₁.setTop (mkF m 1 #[.val (.ref r0)] [(.ref r0)])) _
    refine XS.bipush X0.here hx rfl (hb hby d1_1) ?_
    show Steps p.tables e below (s₁.setTop (mkF m 3 #[.val (.ref r0)] [(.int (9 : Int32)), (.ref r0)])) _
    refine own_ldB X0 hx hZ e0 A_r0 (j := (9 : Int32)) hin3_101 (g := (mkF m 3 #[.val (.ref r0)] [(.int (9 : Int32)), (.ref r0)])) rfl rfl (hb hby d1_3) _ ?_
    exact kt
  refine own_go hgo102 ?_
  obtain ⟨T103, X103, e103, st103⟩ := getS2 X0 hx hZ hown (host := "") (Or.inl (hw _ (List.mem_of_getElem? (i := 6) rfl))) Via.refl e0 S_MARC_8 (g := (mkF m 32 #[.val (.ref r0)] [])) rfl (hb hby d1_32)
  have hgo104 : ∀ t, Steps p.tables e below (T103.setTop (mkF m 45 #[.val (.ref r0)] [(.ref u2)])) t → Steps p.tables e below (s₁.setTop (mkF m 4 #[.val (.ref r0)] [(.int (f 9))])) t := by
    intro t kt
    show Steps p.tables e below (s₁.setTop (mkF m 4 #[.val (.ref r0)] [(.int (f 9))])) _
    refine X0.lookupswitchHit hx (g := (mkF m 4 #[.val (.ref r0)] [(.int (f 9))])) rfl (k := (f 9)) (rest := []) rfl (hb hby d1_4) (by decide) (a := 32) (off := 28) (by rw [hk32]; decide) (by show (0 : Int) ≤ ((4 : Nat) : Int) + 28; decide) _ ?_
    show Steps p.tables e below (s₁.setTop (mkF m 32 #[.val (.ref r0)] [])) _
    refine st103 _ ?_
    show Steps p.tables e below (T103.setTop (mkF m 35 #[.val (.ref r0)] [(.ref u2)])) _
    refine XS.goto X103.here hx rfl (pc0 := 35) (pc' := 45) rfl (hb hby d1_35) (by decide) (by decide) ?_
    exact kt
  refine own_go hgo104 ?_
  exact own_retA X103 hx Bd.returns rfl rfl Bd.notSynchronized (hb hby d1_45) (by decide) (by decide) (by rw [e103]; exact ⟨(by rfl), N0, rfl⟩)
theorem d1_38 : decode prog_28_method_4_code 38 = .ok (.getstatic 7, 3) := by decide +kernel
theorem d1_41 : decode prog_28_method_4_code 41 = .ok (.goto 4, 3) := by decide +kernel
theorem ef_1b (m : MethodId) (r0 : Addr) : entryFrame m #[(.ref r0)] 1 = mkF m 0 #[.val (.ref r0)] [] := by (first | (simp [entryFrame, mkF, argsToLocals, Value.category]; done) | rfl)
def Q1b (Z : State) (r0 : Addr) (f : Nat → Int32) (u2 : Addr) (h0 : Heap) (n0 : Nat) (v : Option Value) (h : Heap) (L : List Loc) : Prop := v = some (.ref u2) ∧ Fr n0 L ∧ h = h0
set_option maxRecDepth 65536 in
set_option maxHeartbeats 40000000 in
theorem rm1b (l : Launch) (Z : State) (a0 : Array Value) (hw : ∀ d ∈ tables_1, d.before a0 Z = true) (ws : List Jvm.Cond) (r0 : Addr) (f : Nat → Int32) (u2 : Addr) (h0 : Heap) (n0 : Nat) (Z0 : n0 ≤ h0.size) (A_r0 : own_AI Z h0 r0 .byte 24 f) (hk32 : ¬ ((f 9) = (32 : Int32))) (hk97 : (f 9) = (97 : Int32)) (S_UNICODE : Sta Z h0 "org/tagwright/core/CharacterCoding" "UNICODE" "Lorg/tagwright/core/CharacterCoding;" (.ref u2)) :
    MetFree l (⟨"org/tagwright/core/CharacterCoding", "of", "([B)Lorg/tagwright/core/CharacterCoding;"⟩ : MethodName) (head1 (Jvm.Cond.code (⟨"org/tagwright/core/CharacterCoding", "of", "([B)Lorg/tagwright/core/CharacterCoding;"⟩ : MethodName) prog_28_method_4_code 1 (some (.object "org/tagwright/core/CharacterCoding")) :: ws) ({ frames := 0, cells := 0, slots := 0, locals := 0 } : Room)) (fun a U => a = #[(.ref r0)] ∧ Z.Warmed39 U.vm ∧ U.heap = h0) (fun _ _ _ _ _ => True) (fun _ U o U' => ∃ v L, o = .returned v ∧ Q1b Z r0 f u2 h0 n0 v U'.heap L ∧ FrameEnd U o U' L ({ frames := 0, cells := 0, slots := 0, locals := 0 } : Room).cells ({ frames := 0, cells := 0, slots := 0, locals := 0 } : Room).slots) := by
  refine MetFree.of_bodySF (plainFor_of_name pn0) hisR ?_
  intro p e s m args below meth c s₁ Bd hml0 hP hK
  obtain ⟨rfl, hZ, hh⟩ := hP
  have hx := Bd.exec
  have hby := Bd.bytes
  have hml : c.maxLocals = 1 := hml0
  have hown : s.vm.findClass "org/tagwright/core/CharacterCoding" = some m.cls := findClass_of_methodNamed Bd.named
  have hnm := (name_of_methodNamed Bd.named Bd.method).1
  have X0 : Stand p l e ({ frames := 0, cells := 0, slots := 0, locals := 0 } : Room) s m #[(.ref r0)] below meth c s₁ [] 0 0 := Stand.of_body Bd
  have e0 : s₁.heap = h0 := by rw [← hh, Bd.state]; rfl
  have N0 := Fr.nil n0
  have K0 : Keep h0 h0 [] := Keep.refl h0 _
  show own_Go p e below s (Q1b Z r0 f u2 h0 n0) ({ frames := 0, cells := 0, slots := 0, locals := 0 } : Room).cells ({ frames := 0, cells := 0, slots := 0, locals := 0 } : Room).slots (s₁.setTop (entryFrame m #[(.ref r0)] 1))
  refine own_go (fun t k => castTop (ef_1b m r0) k) ?_
  have hin3_101 : ¬ (9 : Int32) < 0 ∧ (9 : Int32).toNatClampNeg < 24 := by decide
  have hgo102 : ∀ t, Steps p.tables e below (s₁.setTop (mkF m 4 #[.val (.ref r0)] [(.int (f 9))])) t → Steps p.tables e below (s₁.setTop (mkF m 0 #[.val (.ref r0)] [])) t := by
    intro t kt
    show Steps p.tables e below (s₁.setTop (mkF m 0 #[.val (.ref r0)] [])) _
    refine XS.aloadN X0.here hx rfl (hb hby d1_0) rfl rfl ?_
    show Steps p.tables e below (s₁.setTop (mkF m 1 #[.val (.ref r0)] [(.ref r0)])) _
    refine XS.bipush X0.here hx rfl (hb hby d1_1) ?_
    show Steps p.tables e below (s₁.setTop (mkF m 3 #[.val (.ref r0)] [(.int (9 : Int32)), (.ref r0)])) _
    refine own_ldB X0 hx hZ e0 A_r0 (j := (9 : Int32)) hin3_101 (g := (mkF m 3 #[.val (.ref r0)] [(.int (9 : Int32)), (.ref r0)])) rfl rfl (hb hby d1_3) _ ?_
    exact kt
  refine own_go hgo102 ?_
  obtain ⟨T103, X103, e103, st103⟩ := getS2 X0 hx hZ hown (host := "") (Or.inl (hw _ (List.mem_of_getElem? (i := 9) rfl))) Via.refl e0 S_UNICODE (g := (mkF m 38 #[.val (.ref r0)] [])) rfl (hb hby d1_38)
  have hgo104 : ∀ t, Steps p.tables e below (T103.setTop (mkF m 45 #[.val (.ref r0)] [(.ref u2)])) t → Steps p.tables e below (s₁.setTop (mkF m 4 #[.val (.ref r0)] [(.int (f 9))])) t := by
    intro t kt
    show Steps p.tables e below (s₁.setTop (mkF m 4 #[.val (.ref r0)] [(.int (f 9))])) _
    refine X0.lookupswitchHit hx (g := (mkF m 4 #[.val (.ref r0)] [(.int (f 9))])) rfl (k := (f 9)) (rest := []) rfl (hb hby d1_4) (by decide) (a := 97) (off := 34) (by rw [hk97]; decide) (by show (0 : Int) ≤ ((4 : Nat) : Int) + 34; decide) _ ?_
    show Steps p.tables e below (s₁.setTop (mkF m 38 #[.val (.ref r0)] [])) _
    refine st103 _ ?_
    show Steps p.tables e below (T103.setTop (mkF m 41 #[.val (.ref r0)] [(.ref u2)])) _
    refine XS.goto X103.here hx rfl (pc0 := 41) (pc' := 45) rfl (hb hby d1_41) (by decide) (by decide) ?_
    exact kt
  refine own_go hgo104 ?_
  exact own_retA X103 hx Bd.returns rfl rfl Bd.notSynchronized (hb hby d1_45) (by decide) (by decide) (by rw [e103]; exact ⟨(by rfl), N0, rfl⟩)
theorem d1_44 : decode prog_28_method_4_code 44 = .ok (.aconst_null, 1) := by decide +kernel
theorem ef_1c (m : MethodId) (r0 : Addr) : entryFrame m #[(.ref r0)] 1 = mkF m 0 #[.val (.ref r0)] [] := by (first | (simp [entryFrame, mkF, argsToLocals, Value.category]; done) | rfl)
def Q1c (Z : State) (r0 : Addr) (f : Nat → Int32) (h0 : Heap) (n0 : Nat) (v : Option Value) (h : Heap) (L : List Loc) : Prop := v = some .null ∧ Fr n0 L ∧ h = h0
set_option maxRecDepth 65536 in
set_option maxHeartbeats 40000000 in
theorem rm1c (l : Launch) (Z : State) (a0 : Array Value) (hw : ∀ d ∈ tables_1, d.before a0 Z = true) (ws : List Jvm.Cond) (r0 : Addr) (f : Nat → Int32) (h0 : Heap) (n0 : Nat) (Z0 : n0 ≤ h0.size) (A_r0 : own_AI Z h0 r0 .byte 24 f) (hk32 : ¬ ((f 9) = (32 : Int32))) (hk97 : ¬ ((f 9) = (97 : Int32))) :
    MetFree l (⟨"org/tagwright/core/CharacterCoding", "of", "([B)Lorg/tagwright/core/CharacterCoding;"⟩ : MethodName) (head1 (Jvm.Cond.code (⟨"org/tagwright/core/CharacterCoding", "of", "([B)Lorg/tagwright/core/CharacterCoding;"⟩ : MethodName) prog_28_method_4_code 1 (some (.object "org/tagwright/core/CharacterCoding")) :: ws) ({ frames := 0, cells := 0, slots := 0, locals := 0 } : Room)) (fun a U => a = #[(.ref r0)] ∧ Z.Warmed39 U.vm ∧ U.heap = h0) (fun _ _ _ _ _ => True) (fun _ U o U' => ∃ v L, o = .returned v ∧ Q1c Z r0 f h0 n0 v U'.heap L ∧ FrameEnd U o U' L ({ frames := 0, cells := 0, slots := 0, locals := 0 } : Room).cells ({ frames := 0, cells := 0, slots := 0, locals := 0 } : Room).slots) := by
  refine MetFree.of_bodySF (plainFor_of_name pn0) hisR ?_
  intro p e s m args below meth c s₁ Bd hml0 hP hK
  obtain ⟨rfl, hZ, hh⟩ := hP
  have hx := Bd.exec
  have hby := Bd.bytes
  have hml : c.maxLocals = 1 := hml0
  have hown : s.vm.findClass "org/tagwright/core/CharacterCoding" = some m.cls := findClass_of_methodNamed Bd.named
  have hnm := (name_of_methodNamed Bd.named Bd.method).1
  have X0 : Stand p l e ({ frames := 0, cells := 0, slots := 0, locals := 0 } : Room) s m #[(.ref r0)] below meth c s₁ [] 0 0 := Stand.of_body Bd
  have e0 : s₁.heap = h0 := by rw [← hh, Bd.state]; rfl
  have N0 := Fr.nil n0
  have K0 : Keep h0 h0 [] := Keep.refl h0 _
  show own_Go p e below s (Q1c Z r0 f h0 n0) ({ frames := 0, cells := 0, slots := 0, locals := 0 } : Room).cells ({ frames := 0, cells := 0, slots := 0, locals := 0 } : Room).slots (s₁.setTop (entryFrame m #[(.ref r0)] 1))
  refine own_go (fun t k => castTop (ef_1c m r0) k) ?_
  have hin3_101 : ¬ (9 : Int32) < 0 ∧ (9 : Int32).toNatClampNeg < 24 := by decide
  have hgo102 : ∀ t, Steps p.tables e below (s₁.setTop (mkF m 4 #[.val (.ref r0)] [(.int (f 9))])) t → Steps p.tables e below (s₁.setTop (mkF m 0 #[.val (.ref r0)] [])) t := by
    intro t kt
    show Steps p.tables e below (s₁.setTop (mkF m 0 #[.val (.ref r0)] [])) _
    refine XS.aloadN X0.here hx rfl (hb hby d1_0) rfl rfl ?_
    show Steps p.tables e below (s₁.setTop (mkF m 1 #[.val (.ref r0)] [(.ref r0)])) _
    refine XS.bipush X0.here hx rfl (hb hby d1_1) ?_
    show Steps p.tables e below (s₁.setTop (mkF m 3 #[.val (.ref r0)] [(.int (9 : Int32)), (.ref r0)])) _
    refine own_ldB X0 hx hZ e0 A_r0 (j := (9 : Int32)) hin3_101 (g := (mkF m 3 #[.val (.ref r0)] [(.int (9 : Int32)), (.ref r0)])) rfl rfl (hb hby d1_3) _ ?_
    exact kt
  refine own_go hgo102 ?_
  have hgo103 : ∀ t, Steps p.tables e below (s₁.setTop (mkF m 45 #[.val (.ref r0)] [.null])) t → Steps p.tables e below (s₁.setTop (mkF m 4 #[.val (.ref r0)] [(.int (f 9))])) t := by
    intro t kt
    show Steps p.tables e below (s₁.setTop (mkF m 4 #[.val (.ref r0)] [(.int (f 9))])) _
    refine X0.lookupswitchMiss hx (g := (mkF m 4 #[.val (.ref r0)] [(.int (f 9))])) rfl (k := (f 9)) (rest := []) rfl (hb hby d1_4) (by decide) (find_miss (by show ∀ p ∈ ([(32, 28), (97, 34)] : List (Int × Int)), p.1 ≠ _; exact (List.forall_mem_cons.mpr ⟨fun q => hk32 (Int32.toInt_inj.mp (q.symm.trans (by decide))), (List.forall_mem_cons.mpr ⟨fun q => hk97 (Int32.toInt_inj.mp (q.symm.trans (by decide))), (fun _ hy => nomatch hy)⟩)⟩))) (by show (0 : Int) ≤ ((4 : Nat) : Int) + 40; decide) _ ?_
    show Steps p.tables e below (s₁.setTop (mkF m 44 #[.val (.ref r0)] [])) _
    refine XS.aconstNull X0.here hx rfl (hb hby d1_44) ?_
    exact kt
  refine own_go hgo103 ?_
  exact own_retA X0 hx Bd.returns rfl rfl Bd.notSynchronized (hb hby d1_45) (by decide) (by decide) (by rw [e0]; exact ⟨(by rfl), N0, rfl⟩)
theorem own_ti {x : Int32} (h : x.toBitVec.toNat < 2147483648) : x.toInt = (x.toBitVec.toNat : Int) := by
  show x.toBitVec.toInt = _
  rw [BitVec.toInt_eq_toNat_cond, if_pos (by omega)]
theorem own_tn {x : Int32} (h : 0 ≤ x.toInt) : x.toInt = (x.toBitVec.toNat : Int) ∧ x.toBitVec.toNat < 2147483648 := by
  have e : x.toInt = x.toBitVec.toInt := rfl
  have c := BitVec.toInt_eq_toNat_cond x.toBitVec
  have l := x.toBitVec.isLt
  rw [e] at h ⊢
  rw [c] at h ⊢
  split at h
  · rename_i q
    rw [if_pos q]; omega
  · omega
theorem own_andn (x y : Int32) : (x &&& y).toBitVec.toNat = x.toBitVec.toNat &&& y.toBitVec.toNat := by rw [Int32.toBitVec_and, BitVec.toNat_and]
theorem own_orn (x y : Int32) : (x ||| y).toBitVec.toNat = x.toBitVec.toNat ||| y.toBitVec.toNat := by rw [Int32.toBitVec_or, BitVec.toNat_or]
theorem own_shln {x k : Int32} {n : Nat} (hk : (k.toBitVec.smod 32).toNat = n) (h : x.toBitVec.toNat * 2 ^ n < 2 ^ 32) : (x <<< k).toBitVec.toNat = x.toBitVec.toNat * 2 ^ n := by
  rw [Int32.toBitVec_shiftLeft, BitVec.shiftLeft_eq', BitVec.toNat_shiftLeft, hk, Nat.shiftLeft_eq, Nat.mod_eq_of_lt h]
theorem own_mask {x m : Int32} {k : Nat} (hm : m.toBitVec.toNat = 2 ^ k - 1) : (x &&& m).toBitVec.toNat = x.toBitVec.toNat % 2 ^ k := by
  rw [own_andn, hm, Nat.and_two_pow_sub_one_eq_mod]
theorem own_oradd {a b k : Nat} (hb : b < 2 ^ k) : (a * 2 ^ k) ||| b = a * 2 ^ k + b := by
  rw [Nat.mul_comm, ← Nat.two_pow_add_eq_or_of_lt hb]
theorem own_and31 (x : Int32) : 0 ≤ (x &&& (2147483647 : Int32)).toInt := by
  have e := own_mask (x := x) (m := 2147483647) (k := 31) rfl
  rw [own_ti (by rw [e]; omega)]; omega
theorem own_rem {x m : Int32} (hx : 0 ≤ x.toInt) (hm : 0 < m.toInt) : (x % m).toInt = x.toInt % m.toInt ∧ 0 ≤ (x % m).toInt ∧ (x % m).toInt < m.toInt := by
  have e : (x % m).toInt = x.toInt.tmod m.toInt := Int32.toInt_mod x m
  rw [Int.tmod_eq_emod_of_nonneg hx] at e
  exact ⟨e, e ▸ Int.emod_nonneg _ (by omega), e ▸ Int.emod_lt_of_pos _ hm⟩
theorem own_i24 {p v : Int32} (h : v = ((p &&& (2147483647 : Int32)) % (24 : Int32))) : ¬ v < 0 ∧ v.toNatClampNeg < 24 := by
  have r := (own_rem (own_and31 p) (m := 24) (by decide)).2
  rw [← h, show (24 : Int32).toInt = 24 from rfl] at r
  refine ⟨by rw [Int32.lt_iff_toInt_lt, show (0 : Int32).toInt = 0 from rfl]; omega, ?_⟩
  show v.toInt.toNat < 24
  omega
theorem own_e9 {p1 v1 v4 v5 v6 : Int32} {v14 v15 : Nat → Int32} (hv4 : v4 = (p1.toInt8.toInt32)) (hv5 : v5 = (if v1 = (1 : Int32) then (97 : Int32) else v4)) (hv6 : v6 = (if v1 = (0 : Int32) then (32 : Int32) else v5)) (hv15 : v15 = (own_up v14 9 (nar .byte v6))) : v15 9 = v6 := by
  have q : nar .byte v6 = v6 := by
    rw [hv6]
    split
    · rfl
    · rw [hv5]
      split
      · rfl
      · rw [hv4]; show (p1.toInt8.toInt32).toInt8.toInt32 = _; rw [Int8.toInt8_toInt32]
  rw [hv15, own_up, if_pos rfl, q]
theorem pd1 : parseMethodDescriptor "([B)Lorg/tagwright/core/CharacterCoding;" = some ⟨[(.array .byte)], some (.object "org/tagwright/core/CharacterCoding")⟩ := by decide +kernel
theorem ef_0 (m : MethodId) (p0 : Int32) (p1 : Int32) (p2 : Int32) (p3 : Int32) (p4 : Int32) : entryFrame m #[(.int p0), (.int p1), (.int p2), (.int p3), (.int p4)] maxLocals = mkF m 0 #[.val (.int p0), .val (.int p1), .val (.int p2), .val (.int p3), .val (.int p4), .unset, .unset, .unset, .unset, .unset] [] := by (first | (simp [entryFrame, mkF, argsToLocals, Value.category, maxLocals]; done) | rfl)
set_option maxRecDepth 65536 in
theorem own_leaf1 {p0 p1 p2 p3 p4 v1 v4 v5 v6 v8 v10 v12 v13 v21 : Int32} {u_CharacterCoding_MARC_8 u_CharacterCoding_UNICODE : Addr} {v7 v9 v11 v14 v15 : Nat → Int32} (hv1 : v1 = (p0 &&& (3 : Int32))) (hv4 : v4 = (p1.toInt8.toInt32)) (hv5 : v5 = (if v1 = (1 : Int32) then (97 : Int32) else v4)) (hv6 : v6 = (if v1 = (0 : Int32) then (32 : Int32) else v5)) (hv7 : v7 = (fun _ => (0 : Int32))) (hv8 : v8 = (p2.toInt8.toInt32)) (hv9 : v9 = (own_up v7 8 (nar .byte v8))) (hv10 : v10 = ((p2 >>> ((8 : Int32) &&& 31)).toInt8.toInt32)) (hv11 : v11 = (own_up v9 10 (nar .byte v10))) (hv12 : v12 = (p3.toInt8.toInt32)) (hv13 : v13 = ((p4 &&& (2147483647 : Int32)) % (24 : Int32))) (hv14 : v14 = (own_up v11 (v13.toNatClampNeg) (nar .byte v12))) (hv15 : v15 = (own_up v14 9 (nar .byte v6))) (hv21 : v21 = (if u_CharacterCoding_MARC_8 = u_CharacterCoding_UNICODE then (1 : Int32) else (0 : Int32))) (hs79_16 : (v15 9) = (32 : Int32)) (hc88_17 : ¬ (v6 = (32 : Int32))) (hc103_19 : v6 = (97 : Int32)) : v21 = 1 := by
  have e := own_e9 hv4 hv5 hv6 hv15
  rw [e] at hs79_16
  (try rw [e] at hs79_22)
  exfalso
  clear e hv1 hv4 hv5 hv6 hv7 hv8 hv9 hv10 hv11 hv12 hv13 hv14 hv15
  simp_all
set_option maxRecDepth 65536 in
theorem own_leaf2 {p0 p1 p2 p3 p4 v1 v4 v5 v6 v8 v10 v12 v13 : Int32} {u_CharacterCoding_MARC_8 u_CharacterCoding_UNICODE : Addr} {v7 v9 v11 v14 v15 : Nat → Int32} (hv1 : v1 = (p0 &&& (3 : Int32))) (hv4 : v4 = (p1.toInt8.toInt32)) (hv5 : v5 = (if v1 = (1 : Int32) then (97 : Int32) else v4)) (hv6 : v6 = (if v1 = (0 : Int32) then (32 : Int32) else v5)) (hv7 : v7 = (fun _ => (0 : Int32))) (hv8 : v8 = (p2.toInt8.toInt32)) (hv9 : v9 = (own_up v7 8 (nar .byte v8))) (hv10 : v10 = ((p2 >>> ((8 : Int32) &&& 31)).toInt8.toInt32)) (hv11 : v11 = (own_up v9 10 (nar .byte v10))) (hv12 : v12 = (p3.toInt8.toInt32)) (hv13 : v13 = ((p4 &&& (2147483647 : Int32)) % (24 : Int32))) (hv14 : v14 = (own_up v11 (v13.toNatClampNeg) (nar .byte v12))) (hv15 : v15 = (own_up v14 9 (nar .byte v6))) (hs79_16 : (v15 9) = (32 : Int32)) (hc88_17 : ¬ (v6 = (32 : Int32))) (hc103_19 : ¬ (v6 = (97 : Int32))) : (0 : Int32) = 1 := by
  have e := own_e9 hv4 hv5 hv6 hv15
  rw [e] at hs79_16
  (try rw [e] at hs79_22)
  exfalso
  clear e hv1 hv4 hv5 hv6 hv7 hv8 hv9 hv10 hv11 hv12 hv13 hv14 hv15
  simp_all
set_option maxRecDepth 65536 in
theorem own_leaf3 {p0 p1 p2 p3 p4 v1 v4 v5 v6 v8 v10 v12 v13 v26 : Int32} {u_CharacterCoding_MARC_8 u_CharacterCoding_UNICODE : Addr} {v7 v9 v11 v14 v15 : Nat → Int32} (hv1 : v1 = (p0 &&& (3 : Int32))) (hv4 : v4 = (p1.toInt8.toInt32)) (hv5 : v5 = (if v1 = (1 : Int32) then (97 : Int32) else v4)) (hv6 : v6 = (if v1 = (0 : Int32) then (32 : Int32) else v5)) (hv7 : v7 = (fun _ => (0 : Int32))) (hv8 : v8 = (p2.toInt8.toInt32)) (hv9 : v9 = (own_up v7 8 (nar .byte v8))) (hv10 : v10 = ((p2 >>> ((8 : Int32) &&& 31)).toInt8.toInt32)) (hv11 : v11 = (own_up v9 10 (nar .byte v10))) (hv12 : v12 = (p3.toInt8.toInt32)) (hv13 : v13 = ((p4 &&& (2147483647 : Int32)) % (24 : Int32))) (hv14 : v14 = (own_up v11 (v13.toNatClampNeg) (nar .byte v12))) (hv15 : v15 = (own_up v14 9 (nar .byte v6))) (hv26 : v26 = (if u_CharacterCoding_UNICODE = u_CharacterCoding_MARC_8 then (1 : Int32) else (0 : Int32))) (hs79_16 : ¬ ((v15 9) = (32 : Int32))) (hs79_22 : (v15 9) = (97 : Int32)) (hc88_23 : v6 = (32 : Int32)) : v26 = 1 := by
  have e := own_e9 hv4 hv5 hv6 hv15
  rw [e] at hs79_16
  (try rw [e] at hs79_22)
  exfalso
  clear e hv1 hv4 hv5 hv6 hv7 hv8 hv9 hv10 hv11 hv12 hv13 hv14 hv15
  simp_all
set_option maxRecDepth 65536 in
theorem own_leaf5 {p0 p1 p2 p3 p4 v1 v4 v5 v6 v8 v10 v12 v13 : Int32} {u_CharacterCoding_MARC_8 u_CharacterCoding_UNICODE : Addr} {v7 v9 v11 v14 v15 : Nat → Int32} (hv1 : v1 = (p0 &&& (3 : Int32))) (hv4 : v4 = (p1.toInt8.toInt32)) (hv5 : v5 = (if v1 = (1 : Int32) then (97 : Int32) else v4)) (hv6 : v6 = (if v1 = (0 : Int32) then (32 : Int32) else v5)) (hv7 : v7 = (fun _ => (0 : Int32))) (hv8 : v8 = (p2.toInt8.toInt32)) (hv9 : v9 = (own_up v7 8 (nar .byte v8))) (hv10 : v10 = ((p2 >>> ((8 : Int32) &&& 31)).toInt8.toInt32)) (hv11 : v11 = (own_up v9 10 (nar .byte v10))) (hv12 : v12 = (p3.toInt8.toInt32)) (hv13 : v13 = ((p4 &&& (2147483647 : Int32)) % (24 : Int32))) (hv14 : v14 = (own_up v11 (v13.toNatClampNeg) (nar .byte v12))) (hv15 : v15 = (own_up v14 9 (nar .byte v6))) (hs79_16 : ¬ ((v15 9) = (32 : Int32))) (hs79_22 : (v15 9) = (97 : Int32)) (hc88_23 : ¬ (v6 = (32 : Int32))) (hc103_27 : ¬ (v6 = (97 : Int32))) : (0 : Int32) = 1 := by
  have e := own_e9 hv4 hv5 hv6 hv15
  rw [e] at hs79_16
  (try rw [e] at hs79_22)
  exfalso
  clear e hv1 hv4 hv5 hv6 hv7 hv8 hv9 hv10 hv11 hv12 hv13 hv14 hv15
  simp_all
set_option maxRecDepth 65536 in
theorem own_leaf6 {p0 p1 p2 p3 p4 v1 v4 v5 v6 v8 v10 v12 v13 : Int32} {u_CharacterCoding_MARC_8 u_CharacterCoding_UNICODE : Addr} {v7 v9 v11 v14 v15 : Nat → Int32} (hv1 : v1 = (p0 &&& (3 : Int32))) (hv4 : v4 = (p1.toInt8.toInt32)) (hv5 : v5 = (if v1 = (1 : Int32) then (97 : Int32) else v4)) (hv6 : v6 = (if v1 = (0 : Int32) then (32 : Int32) else v5)) (hv7 : v7 = (fun _ => (0 : Int32))) (hv8 : v8 = (p2.toInt8.toInt32)) (hv9 : v9 = (own_up v7 8 (nar .byte v8))) (hv10 : v10 = ((p2 >>> ((8 : Int32) &&& 31)).toInt8.toInt32)) (hv11 : v11 = (own_up v9 10 (nar .byte v10))) (hv12 : v12 = (p3.toInt8.toInt32)) (hv13 : v13 = ((p4 &&& (2147483647 : Int32)) % (24 : Int32))) (hv14 : v14 = (own_up v11 (v13.toNatClampNeg) (nar .byte v12))) (hv15 : v15 = (own_up v14 9 (nar .byte v6))) (hs79_16 : ¬ ((v15 9) = (32 : Int32))) (hs79_22 : ¬ ((v15 9) = (97 : Int32))) (hc88_28 : v6 = (32 : Int32)) : (0 : Int32) = 1 := by
  have e := own_e9 hv4 hv5 hv6 hv15
  rw [e] at hs79_16
  (try rw [e] at hs79_22)
  exfalso
  clear e hv1 hv4 hv5 hv6 hv7 hv8 hv9 hv10 hv11 hv12 hv13 hv14 hv15
  simp_all
set_option maxRecDepth 65536 in
theorem own_leaf7 {p0 p1 p2 p3 p4 v1 v4 v5 v6 v8 v10 v12 v13 : Int32} {u_CharacterCoding_MARC_8 u_CharacterCoding_UNICODE : Addr} {v7 v9 v11 v14 v15 : Nat → Int32} (hv1 : v1 = (p0 &&& (3 : Int32))) (hv4 : v4 = (p1.toInt8.toInt32)) (hv5 : v5 = (if v1 = (1 : Int32) then (97 : Int32) else v4)) (hv6 : v6 = (if v1 = (0 : Int32) then (32 : Int32) else v5)) (hv7 : v7 = (fun _ => (0 : Int32))) (hv8 : v8 = (p2.toInt8.toInt32)) (hv9 : v9 = (own_up v7 8 (nar .byte v8))) (hv10 : v10 = ((p2 >>> ((8 : Int32) &&& 31)).toInt8.toInt32)) (hv11 : v11 = (own_up v9 10 (nar .byte v10))) (hv12 : v12 = (p3.toInt8.toInt32)) (hv13 : v13 = ((p4 &&& (2147483647 : Int32)) % (24 : Int32))) (hv14 : v14 = (own_up v11 (v13.toNatClampNeg) (nar .byte v12))) (hv15 : v15 = (own_up v14 9 (nar .byte v6))) (hs79_16 : ¬ ((v15 9) = (32 : Int32))) (hs79_22 : ¬ ((v15 9) = (97 : Int32))) (hc88_28 : ¬ (v6 = (32 : Int32))) (hc103_30 : v6 = (97 : Int32)) : (0 : Int32) = 1 := by
  have e := own_e9 hv4 hv5 hv6 hv15
  rw [e] at hs79_16
  (try rw [e] at hs79_22)
  exfalso
  clear e hv1 hv4 hv5 hv6 hv7 hv8 hv9 hv10 hv11 hv12 hv13 hv14 hv15
  simp_all
theorem pn2 : plainName "org/tagwright/core/CharacterCodingOfPinLaw" = true := by first | (simp [plainName, overriddenIn]; done) | decide +kernel
def Q0 (Z : State) (p0 : Int32) (p1 : Int32) (p2 : Int32) (p3 : Int32) (p4 : Int32) (u_CharacterCoding_MARC_8 : Addr) (u_CharacterCoding_UNICODE : Addr) (h0 : Heap) (n0 : Nat) (v : Option Value) (h : Heap) (L : List Loc) : Prop := v = some (.int 1) ∧ Fr n0 L
set_option maxRecDepth 65536 in
set_option maxHeartbeats 40000000 in
theorem rm0 (l : Launch) (Z : State) (a0 : Array Value) (hw : ∀ d ∈ tables_1, d.before a0 Z = true) (ws : List Jvm.Cond) (p0 : Int32) (p1 : Int32) (p2 : Int32) (p3 : Int32) (p4 : Int32) (u_CharacterCoding_MARC_8 : Addr) (u_CharacterCoding_UNICODE : Addr) (h0 : Heap) (n0 : Nat) (Z0 : n0 ≤ h0.size) (S_u_CharacterCoding_MARC_8 : Sta Z h0 "org/tagwright/core/CharacterCoding" "MARC_8" "Lorg/tagwright/core/CharacterCoding;" (.ref u_CharacterCoding_MARC_8)) (E_u_CharacterCoding_MARC_8 : Exa Z h0 u_CharacterCoding_MARC_8 "org/tagwright/core/CharacterCoding") (S_u_CharacterCoding_UNICODE : Sta Z h0 "org/tagwright/core/CharacterCoding" "UNICODE" "Lorg/tagwright/core/CharacterCoding;" (.ref u_CharacterCoding_UNICODE)) (E_u_CharacterCoding_UNICODE : Exa Z h0 u_CharacterCoding_UNICODE "org/tagwright/core/CharacterCoding") :
    MetFree l x (head1 (Jvm.Cond.code x code maxLocals ret :: ws) room_1) (fun a U => a = #[(.int p0), (.int p1), (.int p2), (.int p3), (.int p4)] ∧ Z.Warmed39 U.vm ∧ U.heap = h0) (fun _ _ _ _ _ => True) (fun _ U o U' => ∃ v L, o = .returned v ∧ Q0 Z p0 p1 p2 p3 p4 u_CharacterCoding_MARC_8 u_CharacterCoding_UNICODE h0 n0 v U'.heap L ∧ FrameEnd U o U' L room_1.cells room_1.slots) := by
  refine MetFree.of_bodySF (plainFor_of_name pn2) hisR ?_
  intro p e s m args below meth c s₁ Bd hml0 hP hK
  obtain ⟨rfl, hZ, hh⟩ := hP
  have hx := Bd.exec
  have hby := Bd.bytes
  have hml : c.maxLocals = 10 := hml0
  have hown : s.vm.findClass "org/tagwright/core/CharacterCodingOfPinLaw" = some m.cls := findClass_of_methodNamed Bd.named
  have hnm := (name_of_methodNamed Bd.named Bd.method).1
  have X0 : Stand p l e room_1 s m #[(.int p0), (.int p1), (.int p2), (.int p3), (.int p4)] below meth c s₁ [] 0 0 := Stand.of_body Bd
  have e0 : s₁.heap = h0 := by rw [← hh, Bd.state]; rfl
  have N0 := Fr.nil n0
  have K0 : Keep h0 h0 [] := Keep.refl h0 _
  show own_Go p e below s (Q0 Z p0 p1 p2 p3 p4 u_CharacterCoding_MARC_8 u_CharacterCoding_UNICODE h0 n0) room_1.cells room_1.slots (s₁.setTop (entryFrame m #[(.int p0), (.int p1), (.int p2), (.int p3), (.int p4)] maxLocals))
  refine own_go (fun t k => castTop (ef_0 m p0 p1 p2 p3 p4) k) ?_
  obtain ⟨v1, hv1⟩ : ∃ z : Int32, z = (p0 &&& (3 : Int32)) := ⟨_, rfl⟩
  obtain ⟨v4, hv4⟩ : ∃ z : Int32, z = (p1.toInt8.toInt32) := ⟨_, rfl⟩
  obtain ⟨v5, hv5⟩ : ∃ z : Int32, z = (if v1 = (1 : Int32) then (97 : Int32) else v4) := ⟨_, rfl⟩
  obtain ⟨v6, hv6⟩ : ∃ z : Int32, z = (if v1 = (0 : Int32) then (32 : Int32) else v5) := ⟨_, rfl⟩
  obtain ⟨T106, lc106, X106, N106, e106, st106⟩ := own_mrg (n0 := n0) (h := h0) (g := (mkF m 7 #[.val (.int p0), .val (.int p1), .val (.int p2), .val (.int p3), .val (.int p4), .unset, .val (.int v1), .unset, .unset, .unset] [(.int v1)])) (g' := (mkF m 34 #[.val (.int p0), .val (.int p1), .val (.int p2), .val (.int p3), .val (.int p4), .val (.int v6), .val (.int v1), .unset, .unset, .unset] [])) X0 (by
    by_cases hc7_2 : v1 = (0 : Int32)
    · have hgo101 : ∀ t, Steps p.tables e below (s₁.setTop (mkF m 34 #[.val (.int p0), .val (.int p1), .val (.int p2), .val (.int p3), .val (.int p4), .val (.int (32 : Int32)), .val (.int v1), .unset, .unset, .unset] [])) t → Steps p.tables e below (s₁.setTop (mkF m 7 #[.val (.int p0), .val (.int p1), .val (.int p2), .val (.int p3), .val (.int p4), .unset, .val (.int v1), .unset, .unset, .unset] [(.int v1)])) t := by
        intro t kt
        show Steps p.tables e below (s₁.setTop (mkF m 7 #[.val (.int p0), .val (.int p1), .val (.int p2), .val (.int p3), .val (.int p4), .unset, .val (.int v1), .unset, .unset, .unset] [(.int v1)])) _
        refine XS.ifNo X0.here hx rfl (hb hby at_7) rfl ((if0 _ _).trans (teq hc7_2).2) ?_
        show Steps p.tables e below (s₁.setTop (mkF m 10 #[.val (.int p0), .val (.int p1), .val (.int p2), .val (.int p3), .val (.int p4), .unset, .val (.int v1), .unset, .unset, .unset] [])) _
        refine XS.bipush X0.here hx rfl (hb hby at_10) ?_
        show Steps p.tables e below (s₁.setTop (mkF m 12 #[.val (.int p0), .val (.int p1), .val (.int p2), .val (.int p3), .val (.int p4), .unset, .val (.int v1), .unset, .unset, .unset] [(.int (32 : Int32))])) _
        refine XS.istore X0.here hx rfl (hb hby at_12) rfl (l' := #[.val (.int p0), .val (.int p1), .val (.int p2), .val (.int p3), .val (.int p4), .val (.int (32 : Int32)), .val (.int v1), .unset, .unset, .unset]) rfl ?_
        show Steps p.tables e below (s₁.setTop (mkF m 14 #[.val (.int p0), .val (.int p1), .val (.int p2), .val (.int p3), .val (.int p4), .val (.int (32 : Int32)), .val (.int v1), .unset, .unset, .unset] [])) _
        refine XS.goto X0.here hx rfl (pc0 := 14) (pc' := 34) rfl (hb hby at_14) (by decide) (by decide) ?_
        exact kt
      refine own_arm hgo101 ?_
      exact own_armEnd X0 N0 e0 (by rw [hv6.trans (if_pos hc7_2)])
    · obtain ⟨T104, lc104, X104, N104, e104, st104⟩ := own_mrg (n0 := n0) (h := h0) (g := (mkF m 20 #[.val (.int p0), .val (.int p1), .val (.int p2), .val (.int p3), .val (.int p4), .unset, .val (.int v1), .unset, .unset, .unset] [(.int (1 : Int32)), (.int v1)])) (g' := (mkF m 34 #[.val (.int p0), .val (.int p1), .val (.int p2), .val (.int p3), .val (.int p4), .val (.int v5), .val (.int v1), .unset, .unset, .unset] [])) X0 (by
        by_cases hc20_3 : v1 = (1 : Int32)
        · have hgo102 : ∀ t, Steps p.tables e below (s₁.setTop (mkF m 34 #[.val (.int p0), .val (.int p1), .val (.int p2), .val (.int p3), .val (.int p4), .val (.int (97 : Int32)), .val (.int v1), .unset, .unset, .unset] [])) t → Steps p.tables e below (s₁.setTop (mkF m 20 #[.val (.int p0), .val (.int p1), .val (.int p2), .val (.int p3), .val (.int p4), .unset, .val (.int v1), .unset, .unset, .unset] [(.int (1 : Int32)), (.int v1)])) t := by
            intro t kt
            show Steps p.tables e below (s₁.setTop (mkF m 20 #[.val (.int p0), .val (.int p1), .val (.int p2), .val (.int p3), .val (.int p4), .unset, .val (.int v1), .unset, .unset, .unset] [(.int (1 : Int32)), (.int v1)])) _
            refine XS.icmpNo X0.here hx rfl (hb hby at_20) rfl (teq hc20_3).2 ?_
            show Steps p.tables e below (s₁.setTop (mkF m 23 #[.val (.int p0), .val (.int p1), .val (.int p2), .val (.int p3), .val (.int p4), .unset, .val (.int v1), .unset, .unset, .unset] [])) _
            refine XS.bipush X0.here hx rfl (hb hby at_23) ?_
            show Steps p.tables e below (s₁.setTop (mkF m 25 #[.val (.int p0), .val (.int p1), .val (.int p2), .val (.int p3), .val (.int p4), .unset, .val (.int v1), .unset, .unset, .unset] [(.int (97 : Int32))])) _
            refine XS.istore X0.here hx rfl (hb hby at_25) rfl (l' := #[.val (.int p0), .val (.int p1), .val (.int p2), .val (.int p3), .val (.int p4), .val (.int (97 : Int32)), .val (.int v1), .unset, .unset, .unset]) rfl ?_
            show Steps p.tables e below (s₁.setTop (mkF m 27 #[.val (.int p0), .val (.int p1), .val (.int p2), .val (.int p3), .val (.int p4), .val (.int (97 : Int32)), .val (.int v1), .unset, .unset, .unset] [])) _
            refine XS.goto X0.here hx rfl (pc0 := 27) (pc' := 34) rfl (hb hby at_27) (by decide) (by decide) ?_
            exact kt
          refine own_arm hgo102 ?_
          exact own_armEnd X0 N0 e0 (by rw [hv5.trans (if_pos hc20_3)])
        · have hgo103 : ∀ t, Steps p.tables e below (s₁.setTop (mkF m 34 #[.val (.int p0), .val (.int p1), .val (.int p2), .val (.int p3), .val (.int p4), .val (.int v4), .val (.int v1), .unset, .unset, .unset] [])) t → Steps p.tables e below (s₁.setTop (mkF m 20 #[.val (.int p0), .val (.int p1), .val (.int p2), .val (.int p3), .val (.int p4), .unset, .val (.int v1), .unset, .unset, .unset] [(.int (1 : Int32)), (.int v1)])) t := by
            intro t kt
            show Steps p.tables e below (s₁.setTop (mkF m 20 #[.val (.int p0), .val (.int p1), .val (.int p2), .val (.int p3), .val (.int p4), .unset, .val (.int v1), .unset, .unset, .unset] [(.int (1 : Int32)), (.int v1)])) _
            refine XS.icmpYes X0.here hx rfl (pc0 := 20) (pc' := 30) rfl (hb hby at_20) rfl (feq hc20_3).2 (by decide) (by decide) ?_
            show Steps p.tables e below (s₁.setTop (mkF m 30 #[.val (.int p0), .val (.int p1), .val (.int p2), .val (.int p3), .val (.int p4), .unset, .val (.int v1), .unset, .unset, .unset] [])) _
            refine XS.iloadN X0.here hx rfl (hb hby at_30) rfl ?_
            show Steps p.tables e below (s₁.setTop (mkF m 31 #[.val (.int p0), .val (.int p1), .val (.int p2), .val (.int p3), .val (.int p4), .unset, .val (.int v1), .unset, .unset, .unset] [(.int p1)])) _
            refine XS.i2b X0.here hx rfl (hb hby at_31) rfl ?_
            show Steps p.tables e below (s₁.setTop (mkF m 32 #[.val (.int p0), .val (.int p1), .val (.int p2), .val (.int p3), .val (.int p4), .unset, .val (.int v1), .unset, .unset, .unset] [(.int (p1.toInt8.toInt32))])) _
            rw [← hv4]
            show Steps p.tables e below (s₁.setTop (mkF m 32 #[.val (.int p0), .val (.int p1), .val (.int p2), .val (.int p3), .val (.int p4), .unset, .val (.int v1), .unset, .unset, .unset] [(.int v4)])) _
            refine XS.istore X0.here hx rfl (hb hby at_32) rfl (l' := #[.val (.int p0), .val (.int p1), .val (.int p2), .val (.int p3), .val (.int p4), .val (.int v4), .val (.int v1), .unset, .unset, .unset]) rfl ?_
            exact kt
          refine own_arm hgo103 ?_
          exact own_armEnd X0 N0 e0 (by rw [hv5.trans (if_neg hc20_3)]))
      have hgo105 : ∀ t, Steps p.tables e below (T104.setTop (mkF m 34 #[.val (.int p0), .val (.int p1), .val (.int p2), .val (.int p3), .val (.int p4), .val (.int v5), .val (.int v1), .unset, .unset, .unset] [])) t → Steps p.tables e below (s₁.setTop (mkF m 7 #[.val (.int p0), .val (.int p1), .val (.int p2), .val (.int p3), .val (.int p4), .unset, .val (.int v1), .unset, .unset, .unset] [(.int v1)])) t := by
        intro t kt
        show Steps p.tables e below (s₁.setTop (mkF m 7 #[.val (.int p0), .val (.int p1), .val (.int p2), .val (.int p3), .val (.int p4), .unset, .val (.int v1), .unset, .unset, .unset] [(.int v1)])) _
        refine XS.ifYes X0.here hx rfl (pc0 := 7) (pc' := 17) rfl (hb hby at_7) rfl ((if0 _ _).trans (feq hc7_2).2) (by decide) (by decide) ?_
        show Steps p.tables e below (s₁.setTop (mkF m 17 #[.val (.int p0), .val (.int p1), .val (.int p2), .val (.int p3), .val (.int p4), .unset, .val (.int v1), .unset, .unset, .unset] [])) _
        refine XS.iload X0.here hx rfl (hb hby at_17) rfl ?_
        show Steps p.tables e below (s₁.setTop (mkF m 19 #[.val (.int p0), .val (.int p1), .val (.int p2), .val (.int p3), .val (.int p4), .unset, .val (.int v1), .unset, .unset, .unset] [(.int v1)])) _
        refine XS.iconst X0.here hx rfl (hb hby at_19) ?_
        show Steps p.tables e below (s₁.setTop (mkF m 20 #[.val (.int p0), .val (.int p1), .val (.int p2), .val (.int p3), .val (.int p4), .unset, .val (.int v1), .unset, .unset, .unset] [(.int (1 : Int32)), (.int v1)])) _
        refine st104 _ ?_
        exact kt
      refine own_arm hgo105 ?_
      exact own_armEnd X104 N104 e104 (by rw [hv6.trans (if_neg hc7_2)]))
  obtain ⟨T107, h107, k107, X107, e107, E107, A107, st107⟩ := newP X106 hx hZ (hw _ (List.mem_of_getElem? (i := 0) rfl)) e106 (g := (mkF m 36 #[.val (.int p0), .val (.int p1), .val (.int p2), .val (.int p3), .val (.int p4), .val (.int v6), .val (.int v1), .unset, .unset, .unset] [(.int (24 : Int32))])) rfl (hb hby at_36) rfl (by decide) (cap := 24) (by decide) (by decide) (by decide) (by decide)
  obtain ⟨b107, g107⟩ : ∃ z, z = h0.size := ⟨_, rfl⟩
  rw [← g107] at A107 st107
  have ne_u_CharacterCoding_MARC_8_b107 : u_CharacterCoding_MARC_8 ≠ b107 := Nat.ne_of_lt (Nat.lt_of_lt_of_le E_u_CharacterCoding_MARC_8.lt (Nat.le_of_eq g107.symm))
  have ne_u_CharacterCoding_UNICODE_b107 : u_CharacterCoding_UNICODE ≠ b107 := Nat.ne_of_lt (Nat.lt_of_lt_of_le E_u_CharacterCoding_UNICODE.lt (Nat.le_of_eq g107.symm))
  have g_b107 : n0 ≤ b107 := Nat.le_trans Z0 (Nat.le_of_eq g107.symm)
  have sz_b107 : h0.size ≤ b107 := Nat.le_trans K0.1 (Nat.le_of_eq g107.symm)
  have F108 := S_u_CharacterCoding_MARC_8.ext E107
  have F109 := E_u_CharacterCoding_MARC_8.ext E107
  have F110 := S_u_CharacterCoding_UNICODE.ext E107
  have F111 := E_u_CharacterCoding_UNICODE.ext E107
  have Z112 : n0 ≤ h107.size := Nat.le_trans Z0 E107.1
  have K113 : Keep h0 h107 [] := K0.ext E107
  obtain ⟨v7, hv7⟩ : ∃ z : Nat → Int32, z = (fun _ => (0 : Int32)) := ⟨_, rfl⟩
  have F114 : own_AI Z h107 b107 .byte 24 v7 := by rw [hv7]; exact own_AI.new A107 rfl (by decide)
  obtain ⟨v8, hv8⟩ : ∃ z : Int32, z = (p2.toInt8.toInt32) := ⟨_, rfl⟩
  have hin46_115 : ¬ (8 : Int32) < 0 ∧ (8 : Int32).toNatClampNeg < 24 := by decide
  obtain ⟨T116, h116, X116, e116, W116, B116, st116⟩ := own_stB X107 hx hZ e107 F114 (j := (8 : Int32)) (x := v8) hin46_115 (g := (mkF m 46 #[.val (.int p0), .val (.int p1), .val (.int p2), .val (.int p3), .val (.int p4), .val (.int v6), .val (.int v1), .val (.ref b107), .unset, .unset] [(.int v8), (.int (8 : Int32)), (.ref b107)])) rfl rfl (hb hby at_46)
  obtain ⟨v9, hv9⟩ : ∃ z : Nat → Int32, z = (own_up v7 8 (nar .byte v8)) := ⟨_, rfl⟩
  have B116n : own_AI Z h116 b107 .byte 24 v9 := by rw [hv9]; exact B116
  have F117 := F108.wr W116
  have F118 := F109.wr W116
  have F119 := F110.wr W116
  have F120 := F111.wr W116
  have Z121 : n0 ≤ h116.size := Nat.le_trans Z112 (Keep.of_wr W116).1
  have K122 : Keep h0 h116 [] := K113.wr W116 (Or.inr sz_b107)
  have N123 := Fr.snoc X116 N106 g_b107
  obtain ⟨v10, hv10⟩ : ∃ z : Int32, z = ((p2 >>> ((8 : Int32) &&& 31)).toInt8.toInt32) := ⟨_, rfl⟩
  have hin56_124 : ¬ (10 : Int32) < 0 ∧ (10 : Int32).toNatClampNeg < 24 := by decide
  obtain ⟨T125, h125, X125, e125, W125, B125, st125⟩ := own_stB X116 hx hZ e116 B116n (j := (10 : Int32)) (x := v10) hin56_124 (g := (mkF m 56 #[.val (.int p0), .val (.int p1), .val (.int p2), .val (.int p3), .val (.int p4), .val (.int v6), .val (.int v1), .val (.ref b107), .unset, .unset] [(.int v10), (.int (10 : Int32)), (.ref b107)])) rfl rfl (hb hby at_56)
  obtain ⟨v11, hv11⟩ : ∃ z : Nat → Int32, z = (own_up v9 10 (nar .byte v10)) := ⟨_, rfl⟩
  have B125n : own_AI Z h125 b107 .byte 24 v11 := by rw [hv11]; exact B125
  have F126 := F117.wr W125
  have F127 := F118.wr W125
  have F128 := F119.wr W125
  have F129 := F120.wr W125
  have Z130 : n0 ≤ h125.size := Nat.le_trans Z121 (Keep.of_wr W125).1
  have K131 : Keep h0 h125 [] := K122.wr W125 (Or.inr sz_b107)
  have N132 := Fr.snoc X125 N123 g_b107
  have hnz66_133 : ¬ ((24 : Int32) = (0 : Int32)) := by decide
  obtain ⟨v12, hv12⟩ : ∃ z : Int32, z = (p3.toInt8.toInt32) := ⟨_, rfl⟩
  obtain ⟨v13, hv13⟩ : ∃ z : Int32, z = ((p4 &&& (2147483647 : Int32)) % (24 : Int32)) := ⟨_, rfl⟩
  have hin69_134 : ¬ v13 < 0 ∧ v13.toNatClampNeg < 24 := own_i24 hv13
  obtain ⟨T135, h135, X135, e135, W135, B135, st135⟩ := own_stB X125 hx hZ e125 B125n (j := v13) (x := v12) hin69_134 (g := (mkF m 69 #[.val (.int p0), .val (.int p1), .val (.int p2), .val (.int p3), .val (.int p4), .val (.int v6), .val (.int v1), .val (.ref b107), .unset, .unset] [(.int v12), (.int v13), (.ref b107)])) rfl rfl (hb hby at_69)
  obtain ⟨v14, hv14⟩ : ∃ z : Nat → Int32, z = (own_up v11 (v13.toNatClampNeg) (nar .byte v12)) := ⟨_, rfl⟩
  have B135n : own_AI Z h135 b107 .byte 24 v14 := by rw [hv14]; exact B135
  have F136 := F126.wr W135
  have F137 := F127.wr W135
  have F138 := F128.wr W135
  have F139 := F129.wr W135
  have Z140 : n0 ≤ h135.size := Nat.le_trans Z130 (Keep.of_wr W135).1
  have K141 : Keep h0 h135 [] := K131.wr W135 (Or.inr sz_b107)
  have N142 := Fr.snoc X135 N132 g_b107
  have hin76_143 : ¬ (9 : Int32) < 0 ∧ (9 : Int32).toNatClampNeg < 24 := by decide
  obtain ⟨T144, h144, X144, e144, W144, B144, st144⟩ := own_stB X135 hx hZ e135 B135n (j := (9 : Int32)) (x := v6) hin76_143 (g := (mkF m 76 #[.val (.int p0), .val (.int p1), .val (.int p2), .val (.int p3), .val (.int p4), .val (.int v6), .val (.int v1), .val (.ref b107), .unset, .unset] [(.int v6), (.int (9 : Int32)), (.ref b107)])) rfl rfl (hb hby at_76)
  obtain ⟨v15, hv15⟩ : ∃ z : Nat → Int32, z = (own_up v14 9 (nar .byte v6)) := ⟨_, rfl⟩
  have B144n : own_AI Z h144 b107 .byte 24 v15 := by rw [hv15]; exact B144
  have F145 := F136.wr W144
  have F146 := F137.wr W144
  have F147 := F138.wr W144
  have F148 := F139.wr W144
  have Z149 : n0 ≤ h144.size := Nat.le_trans Z140 (Keep.of_wr W144).1
  have K150 : Keep h0 h144 [] := K141.wr W144 (Or.inr sz_b107)
  have N151 := Fr.snoc X144 N142 g_b107
  have hgo152 : ∀ t, Steps p.tables e below (T144.setTop (mkF m 79 #[.val (.int p0), .val (.int p1), .val (.int p2), .val (.int p3), .val (.int p4), .val (.int v6), .val (.int v1), .val (.ref b107), .unset, .unset] [(.ref b107)])) t → Steps p.tables e below (s₁.setTop (mkF m 0 #[.val (.int p0), .val (.int p1), .val (.int p2), .val (.int p3), .val (.int p4), .unset, .unset, .unset, .unset, .unset] [])) t := by
    intro t kt
    show Steps p.tables e below (s₁.setTop (mkF m 0 #[.val (.int p0), .val (.int p1), .val (.int p2), .val (.int p3), .val (.int p4), .unset, .unset, .unset, .unset, .unset] [])) _
    refine XS.iloadN X0.here hx rfl (hb hby at_0) rfl ?_
    show Steps p.tables e below (s₁.setTop (mkF m 1 #[.val (.int p0), .val (.int p1), .val (.int p2), .val (.int p3), .val (.int p4), .unset, .unset, .unset, .unset, .unset] [(.int p0)])) _
    refine XS.iconst X0.here hx rfl (hb hby at_1) ?_
    show Steps p.tables e below (s₁.setTop (mkF m 2 #[.val (.int p0), .val (.int p1), .val (.int p2), .val (.int p3), .val (.int p4), .unset, .unset, .unset, .unset, .unset] [(.int (3 : Int32)), (.int p0)])) _
    refine XS.iand X0.here hx rfl (hb hby at_2) rfl ?_
    show Steps p.tables e below (s₁.setTop (mkF m 3 #[.val (.int p0), .val (.int p1), .val (.int p2), .val (.int p3), .val (.int p4), .unset, .unset, .unset, .unset, .unset] [(.int (p0 &&& (3 : Int32)))])) _
    rw [← hv1]
    show Steps p.tables e below (s₁.setTop (mkF m 3 #[.val (.int p0), .val (.int p1), .val (.int p2), .val (.int p3), .val (.int p4), .unset, .unset, .unset, .unset, .unset] [(.int v1)])) _
    refine XS.istore X0.here hx rfl (hb hby at_3) rfl (l' := #[.val (.int p0), .val (.int p1), .val (.int p2), .val (.int p3), .val (.int p4), .unset, .val (.int v1), .unset, .unset, .unset]) rfl ?_
    show Steps p.tables e below (s₁.setTop (mkF m 5 #[.val (.int p0), .val (.int p1), .val (.int p2), .val (.int p3), .val (.int p4), .unset, .val (.int v1), .unset, .unset, .unset] [])) _
    refine XS.iload X0.here hx rfl (hb hby at_5) rfl ?_
    show Steps p.tables e below (s₁.setTop (mkF m 7 #[.val (.int p0), .val (.int p1), .val (.int p2), .val (.int p3), .val (.int p4), .unset, .val (.int v1), .unset, .unset, .unset] [(.int v1)])) _
    refine st106 _ ?_
    show Steps p.tables e below (T106.setTop (mkF m 34 #[.val (.int p0), .val (.int p1), .val (.int p2), .val (.int p3), .val (.int p4), .val (.int v6), .val (.int v1), .unset, .unset, .unset] [])) _
    refine XS.bipush X106.here hx rfl (hb hby at_34) ?_
    show Steps p.tables e below (T106.setTop (mkF m 36 #[.val (.int p0), .val (.int p1), .val (.int p2), .val (.int p3), .val (.int p4), .val (.int v6), .val (.int v1), .unset, .unset, .unset] [(.int (24 : Int32))])) _
    refine st107 _ ?_
    show Steps p.tables e below (T107.setTop (mkF m 38 #[.val (.int p0), .val (.int p1), .val (.int p2), .val (.int p3), .val (.int p4), .val (.int v6), .val (.int v1), .unset, .unset, .unset] [(.ref b107)])) _
    refine XS.astore X107.here hx rfl (hb hby at_38) rfl rfl (l' := #[.val (.int p0), .val (.int p1), .val (.int p2), .val (.int p3), .val (.int p4), .val (.int v6), .val (.int v1), .val (.ref b107), .unset, .unset]) rfl ?_
    show Steps p.tables e below (T107.setTop (mkF m 40 #[.val (.int p0), .val (.int p1), .val (.int p2), .val (.int p3), .val (.int p4), .val (.int v6), .val (.int v1), .val (.ref b107), .unset, .unset] [])) _
    refine XS.aload X107.here hx rfl (hb hby at_40) rfl rfl ?_
    show Steps p.tables e below (T107.setTop (mkF m 42 #[.val (.int p0), .val (.int p1), .val (.int p2), .val (.int p3), .val (.int p4), .val (.int v6), .val (.int v1), .val (.ref b107), .unset, .unset] [(.ref b107)])) _
    refine XS.bipush X107.here hx rfl (hb hby at_42) ?_
    show Steps p.tables e below (T107.setTop (mkF m 44 #[.val (.int p0), .val (.int p1), .val (.int p2), .val (.int p3), .val (.int p4), .val (.int v6), .val (.int v1), .val (.ref b107), .unset, .unset] [(.int (8 : Int32)), (.ref b107)])) _
    refine XS.iloadN X107.here hx rfl (hb hby at_44) rfl ?_
    show Steps p.tables e below (T107.setTop (mkF m 45 #[.val (.int p0), .val (.int p1), .val (.int p2), .val (.int p3), .val (.int p4), .val (.int v6), .val (.int v1), .val (.ref b107), .unset, .unset] [(.int p2), (.int (8 : Int32)), (.ref b107)])) _
    refine XS.i2b X107.here hx rfl (hb hby at_45) rfl ?_
    show Steps p.tables e below (T107.setTop (mkF m 46 #[.val (.int p0), .val (.int p1), .val (.int p2), .val (.int p3), .val (.int p4), .val (.int v6), .val (.int v1), .val (.ref b107), .unset, .unset] [(.int (p2.toInt8.toInt32)), (.int (8 : Int32)), (.ref b107)])) _
    rw [← hv8]
    refine st116 _ ?_
    show Steps p.tables e below (T116.setTop (mkF m 47 #[.val (.int p0), .val (.int p1), .val (.int p2), .val (.int p3), .val (.int p4), .val (.int v6), .val (.int v1), .val (.ref b107), .unset, .unset] [])) _
    refine XS.aload X116.here hx rfl (hb hby at_47) rfl rfl ?_
    show Steps p.tables e below (T116.setTop (mkF m 49 #[.val (.int p0), .val (.int p1), .val (.int p2), .val (.int p3), .val (.int p4), .val (.int v6), .val (.int v1), .val (.ref b107), .unset, .unset] [(.ref b107)])) _
    refine XS.bipush X116.here hx rfl (hb hby at_49) ?_
    show Steps p.tables e below (T116.setTop (mkF m 51 #[.val (.int p0), .val (.int p1), .val (.int p2), .val (.int p3), .val (.int p4), .val (.int v6), .val (.int v1), .val (.ref b107), .unset, .unset] [(.int (10 : Int32)), (.ref b107)])) _
    refine XS.iloadN X116.here hx rfl (hb hby at_51) rfl ?_
    show Steps p.tables e below (T116.setTop (mkF m 52 #[.val (.int p0), .val (.int p1), .val (.int p2), .val (.int p3), .val (.int p4), .val (.int v6), .val (.int v1), .val (.ref b107), .unset, .unset] [(.int p2), (.int (10 : Int32)), (.ref b107)])) _
    refine XS.bipush X116.here hx rfl (hb hby at_52) ?_
    show Steps p.tables e below (T116.setTop (mkF m 54 #[.val (.int p0), .val (.int p1), .val (.int p2), .val (.int p3), .val (.int p4), .val (.int v6), .val (.int v1), .val (.ref b107), .unset, .unset] [(.int (8 : Int32)), (.int p2), (.int (10 : Int32)), (.ref b107)])) _
    refine XS.ishr X116.here hx rfl (hb hby at_54) rfl ?_
    show Steps p.tables e below (T116.setTop (mkF m 55 #[.val (.int p0), .val (.int p1), .val (.int p2), .val (.int p3), .val (.int p4), .val (.int v6), .val (.int v1), .val (.ref b107), .unset, .unset] [(.int (p2 >>> ((8 : Int32) &&& 31))), (.int (10 : Int32)), (.ref b107)])) _
    refine XS.i2b X116.here hx rfl (hb hby at_55) rfl ?_
    show Steps p.tables e below (T116.setTop (mkF m 56 #[.val (.int p0), .val (.int p1), .val (.int p2), .val (.int p3), .val (.int p4), .val (.int v6), .val (.int v1), .val (.ref b107), .unset, .unset] [(.int ((p2 >>> ((8 : Int32) &&& 31)).toInt8.toInt32)), (.int (10 : Int32)), (.ref b107)])) _
    rw [← hv10]
    refine st125 _ ?_
    show Steps p.tables e below (T125.setTop (mkF m 57 #[.val (.int p0), .val (.int p1), .val (.int p2), .val (.int p3), .val (.int p4), .val (.int v6), .val (.int v1), .val (.ref b107), .unset, .unset] [])) _
    refine XS.aload X125.here hx rfl (hb hby at_57) rfl rfl ?_
    show Steps p.tables e below (T125.setTop (mkF m 59 #[.val (.int p0), .val (.int p1), .val (.int p2), .val (.int p3), .val (.int p4), .val (.int v6), .val (.int v1), .val (.ref b107), .unset, .unset] [(.ref b107)])) _
    refine XS.iload X125.here hx rfl (hb hby at_59) rfl ?_
    show Steps p.tables e below (T125.setTop (mkF m 61 #[.val (.int p0), .val (.int p1), .val (.int p2), .val (.int p3), .val (.int p4), .val (.int v6), .val (.int v1), .val (.ref b107), .unset, .unset] [(.int p4), (.ref b107)])) _
    refine X125.ldcInt hx hown (mvT hZ (hw _ (List.mem_of_getElem? (i := 1) rfl))) (g := (mkF m 61 #[.val (.int p0), .val (.int p1), .val (.int p2), .val (.int p3), .val (.int p4), .val (.int v6), .val (.int v1), .val (.ref b107), .unset, .unset] [(.int p4), (.ref b107)])) rfl (hb hby at_61) _ ?_
    show Steps p.tables e below (T125.setTop (mkF m 63 #[.val (.int p0), .val (.int p1), .val (.int p2), .val (.int p3), .val (.int p4), .val (.int v6), .val (.int v1), .val (.ref b107), .unset, .unset] [(.int (2147483647 : Int32)), (.int p4), (.ref b107)])) _
    refine XS.iand X125.here hx rfl (hb hby at_63) rfl ?_
    show Steps p.tables e below (T125.setTop (mkF m 64 #[.val (.int p0), .val (.int p1), .val (.int p2), .val (.int p3), .val (.int p4), .val (.int v6), .val (.int v1), .val (.ref b107), .unset, .unset] [(.int (p4 &&& (2147483647 : Int32))), (.ref b107)])) _
    refine XS.bipush X125.here hx rfl (hb hby at_64) ?_
    show Steps p.tables e below (T125.setTop (mkF m 66 #[.val (.int p0), .val (.int p1), .val (.int p2), .val (.int p3), .val (.int p4), .val (.int v6), .val (.int v1), .val (.ref b107), .unset, .unset] [(.int (24 : Int32)), (.int (p4 &&& (2147483647 : Int32))), (.ref b107)])) _
    refine XS.irem X125.here hx rfl (hb hby at_66) rfl hnz66_133 ?_
    rw [own_remI (p4 &&& (2147483647 : Int32)) (24 : Int32)]
    show Steps p.tables e below (T125.setTop (mkF m 67 #[.val (.int p0), .val (.int p1), .val (.int p2), .val (.int p3), .val (.int p4), .val (.int v6), .val (.int v1), .val (.ref b107), .unset, .unset] [(.int ((p4 &&& (2147483647 : Int32)) % (24 : Int32))), (.ref b107)])) _
    refine XS.iloadN X125.here hx rfl (hb hby at_67) rfl ?_
    show Steps p.tables e below (T125.setTop (mkF m 68 #[.val (.int p0), .val (.int p1), .val (.int p2), .val (.int p3), .val (.int p4), .val (.int v6), .val (.int v1), .val (.ref b107), .unset, .unset] [(.int p3), (.int ((p4 &&& (2147483647 : Int32)) % (24 : Int32))), (.ref b107)])) _
    refine XS.i2b X125.here hx rfl (hb hby at_68) rfl ?_
    show Steps p.tables e below (T125.setTop (mkF m 69 #[.val (.int p0), .val (.int p1), .val (.int p2), .val (.int p3), .val (.int p4), .val (.int v6), .val (.int v1), .val (.ref b107), .unset, .unset] [(.int (p3.toInt8.toInt32)), (.int ((p4 &&& (2147483647 : Int32)) % (24 : Int32))), (.ref b107)])) _
    rw [← hv12]
    rw [← hv13]
    refine st135 _ ?_
    show Steps p.tables e below (T135.setTop (mkF m 70 #[.val (.int p0), .val (.int p1), .val (.int p2), .val (.int p3), .val (.int p4), .val (.int v6), .val (.int v1), .val (.ref b107), .unset, .unset] [])) _
    refine XS.aload X135.here hx rfl (hb hby at_70) rfl rfl ?_
    show Steps p.tables e below (T135.setTop (mkF m 72 #[.val (.int p0), .val (.int p1), .val (.int p2), .val (.int p3), .val (.int p4), .val (.int v6), .val (.int v1), .val (.ref b107), .unset, .unset] [(.ref b107)])) _
    refine XS.bipush X135.here hx rfl (hb hby at_72) ?_
    show Steps p.tables e below (T135.setTop (mkF m 74 #[.val (.int p0), .val (.int p1), .val (.int p2), .val (.int p3), .val (.int p4), .val (.int v6), .val (.int v1), .val (.ref b107), .unset, .unset] [(.int (9 : Int32)), (.ref b107)])) _
    refine XS.iload X135.here hx rfl (hb hby at_74) rfl ?_
    show Steps p.tables e below (T135.setTop (mkF m 76 #[.val (.int p0), .val (.int p1), .val (.int p2), .val (.int p3), .val (.int p4), .val (.int v6), .val (.int v1), .val (.ref b107), .unset, .unset] [(.int v6), (.int (9 : Int32)), (.ref b107)])) _
    refine st144 _ ?_
    show Steps p.tables e below (T144.setTop (mkF m 77 #[.val (.int p0), .val (.int p1), .val (.int p2), .val (.int p3), .val (.int p4), .val (.int v6), .val (.int v1), .val (.ref b107), .unset, .unset] [])) _
    refine XS.aload X144.here hx rfl (hb hby at_77) rfl rfl ?_
    exact kt
  refine own_go hgo152 ?_
  by_cases hs79_16 : (v15 9) = (32 : Int32)
  · obtain ⟨_, _, ⟨T153, L153, k153, n153⟩, -, X153, ⟨Lc153, hQ153, l153, y153, z153⟩, st153⟩ := Jvm.LawKit.callS X144 hx (y := (⟨"org/tagwright/core/CharacterCoding", "of", "([B)Lorg/tagwright/core/CharacterCoding;"⟩ : MethodName)) hown (mvT hZ (hw _ (List.mem_of_getElem? (i := 2) rfl))) (mvT hZ (hw _ (List.mem_of_getElem? (i := 3) rfl))) (mvT hZ (hw _ (List.mem_of_getElem? (i := 4) rfl))) (mvT hZ (hw _ (List.mem_of_getElem? (i := 5) rfl))) (by decide) (backOf (W := 0) (rm1a l Z a0 hw [] b107 v15 u_CharacterCoding_MARC_8 h144 n0 Z149 B144n (by first | assumption | decide : (v15 9) = (32 : Int32)) F145) hZ (hw _ (List.mem_of_getElem? (i := 5) rfl)) (hw _ (List.mem_of_getElem? (i := 4) rfl)) (by decide) (by decide)) (g := (mkF m 79 #[.val (.int p0), .val (.int p1), .val (.int p2), .val (.int p3), .val (.int p4), .val (.int v6), .val (.int v1), .val (.ref b107), .unset, .unset] [(.ref b107)])) rfl (by rw [hml]; rfl) (argsL := [(.ref b107)]) (rest := []) (lenOf pd1 rfl) rfl (by show 2 * 0 + _ ≤ _; exact Nat.le_of_eq rfl) (hb hby at_79) (fun _ _ => ⟨rfl, e144, (by decide : 1 + 0 ≤ _), (by decide : 24 + 0 ≤ _)⟩)
    dsimp only [Pt.U, Pt.locs, Pt.cells, Pt.slots] at X153 l153 y153 z153 st153 hQ153
    subst l153 y153 z153
    obtain ⟨rfl, N153q, e153⟩ := hQ153
    have N153 := Fr.app N151 N153q
    have hgo159 : ∀ t, Steps p.tables e below (T153.setTop (mkF m 88 #[.val (.int p0), .val (.int p1), .val (.int p2), .val (.int p3), .val (.int p4), .val (.int v6), .val (.int v1), .val (.ref b107), .val (.ref u_CharacterCoding_MARC_8), .unset] [(.int (32 : Int32)), (.int v6)])) t → Steps p.tables e below (T144.setTop (mkF m 79 #[.val (.int p0), .val (.int p1), .val (.int p2), .val (.int p3), .val (.int p4), .val (.int v6), .val (.int v1), .val (.ref b107), .unset, .unset] [(.ref b107)])) t := by
      intro t kt
      show Steps p.tables e below (T144.setTop (mkF m 79 #[.val (.int p0), .val (.int p1), .val (.int p2), .val (.int p3), .val (.int p4), .val (.int v6), .val (.int v1), .val (.ref b107), .unset, .unset] [(.ref b107)])) _
      refine st153 _ ?_
      show Steps p.tables e below (T153.setTop (mkF m 82 #[.val (.int p0), .val (.int p1), .val (.int p2), .val (.int p3), .val (.int p4), .val (.int v6), .val (.int v1), .val (.ref b107), .unset, .unset] [(.ref u_CharacterCoding_MARC_8)])) _
      refine XS.astore X153.here hx rfl (hb hby at_82) rfl rfl (l' := #[.val (.int p0), .val (.int p1), .val (.int p2), .val (.int p3), .val (.int p4), .val (.int v6), .val (.int v1), .val (.ref b107), .val (.ref u_CharacterCoding_MARC_8), .unset]) rfl ?_
      show Steps p.tables e below (T153.setTop (mkF m 84 #[.val (.int p0), .val (.int p1), .val (.int p2), .val (.int p3), .val (.int p4), .val (.int v6), .val (.int v1), .val (.ref b107), .val (.ref u_CharacterCoding_MARC_8), .unset] [])) _
      refine XS.iload X153.here hx rfl (hb hby at_84) rfl ?_
      show Steps p.tables e below (T153.setTop (mkF m 86 #[.val (.int p0), .val (.int p1), .val (.int p2), .val (.int p3), .val (.int p4), .val (.int v6), .val (.int v1), .val (.ref b107), .val (.ref u_CharacterCoding_MARC_8), .unset] [(.int v6)])) _
      refine XS.bipush X153.here hx rfl (hb hby at_86) ?_
      exact kt
    refine own_go hgo159 ?_
    by_cases hc88_17 : v6 = (32 : Int32)
    · obtain ⟨T160, X160, e160, st160⟩ := getS2 X153 hx hZ hown (host := "") (Or.inl (hw _ (List.mem_of_getElem? (i := 8) rfl))) Via.refl e153 F145 (g := (mkF m 91 #[.val (.int p0), .val (.int p1), .val (.int p2), .val (.int p3), .val (.int p4), .val (.int v6), .val (.int v1), .val (.ref b107), .val (.ref u_CharacterCoding_MARC_8), .unset] [])) rfl (hb hby at_91)
      have hgo161 : ∀ t, Steps p.tables e below (T160.setTop (mkF m 129 #[.val (.int p0), .val (.int p1), .val (.int p2), .val (.int p3), .val (.int p4), .val (.int v6), .val (.int v1), .val (.ref b107), .val (.ref u_CharacterCoding_MARC_8), .val (.ref u_CharacterCoding_MARC_8)] [(.int (1 : Int32))])) t → Steps p.tables e below (T153.setTop (mkF m 88 #[.val (.int p0), .val (.int p1), .val (.int p2), .val (.int p3), .val (.int p4), .val (.int v6), .val (.int v1), .val (.ref b107), .val (.ref u_CharacterCoding_MARC_8), .unset] [(.int (32 : Int32)), (.int v6)])) t := by
        intro t kt
        show Steps p.tables e below (T153.setTop (mkF m 88 #[.val (.int p0), .val (.int p1), .val (.int p2), .val (.int p3), .val (.int p4), .val (.int v6), .val (.int v1), .val (.ref b107), .val (.ref u_CharacterCoding_MARC_8), .unset] [(.int (32 : Int32)), (.int v6)])) _
        refine XS.icmpNo X153.here hx rfl (hb hby at_88) rfl (teq hc88_17).2 ?_
        show Steps p.tables e below (T153.setTop (mkF m 91 #[.val (.int p0), .val (.int p1), .val (.int p2), .val (.int p3), .val (.int p4), .val (.int v6), .val (.int v1), .val (.ref b107), .val (.ref u_CharacterCoding_MARC_8), .unset] [])) _
        refine st160 _ ?_
        show Steps p.tables e below (T160.setTop (mkF m 94 #[.val (.int p0), .val (.int p1), .val (.int p2), .val (.int p3), .val (.int p4), .val (.int v6), .val (.int v1), .val (.ref b107), .val (.ref u_CharacterCoding_MARC_8), .unset] [(.ref u_CharacterCoding_MARC_8)])) _
        refine XS.astore X160.here hx rfl (hb hby at_94) rfl rfl (l' := #[.val (.int p0), .val (.int p1), .val (.int p2), .val (.int p3), .val (.int p4), .val (.int v6), .val (.int v1), .val (.ref b107), .val (.ref u_CharacterCoding_MARC_8), .val (.ref u_CharacterCoding_MARC_8)]) rfl ?_
        show Steps p.tables e below (T160.setTop (mkF m 96 #[.val (.int p0), .val (.int p1), .val (.int p2), .val (.int p3), .val (.int p4), .val (.int v6), .val (.int v1), .val (.ref b107), .val (.ref u_CharacterCoding_MARC_8), .val (.ref u_CharacterCoding_MARC_8)] [])) _
        refine XS.goto X160.here hx rfl (pc0 := 96) (pc' := 117) rfl (hb hby at_96) (by decide) (by decide) ?_
        show Steps p.tables e below (T160.setTop (mkF m 117 #[.val (.int p0), .val (.int p1), .val (.int p2), .val (.int p3), .val (.int p4), .val (.int v6), .val (.int v1), .val (.ref b107), .val (.ref u_CharacterCoding_MARC_8), .val (.ref u_CharacterCoding_MARC_8)] [])) _
        refine XS.aload X160.here hx rfl (hb hby at_117) rfl rfl ?_
        show Steps p.tables e below (T160.setTop (mkF m 119 #[.val (.int p0), .val (.int p1), .val (.int p2), .val (.int p3), .val (.int p4), .val (.int v6), .val (.int v1), .val (.ref b107), .val (.ref u_CharacterCoding_MARC_8), .val (.ref u_CharacterCoding_MARC_8)] [(.ref u_CharacterCoding_MARC_8)])) _
        refine XS.aload X160.here hx rfl (hb hby at_119) rfl rfl ?_
        show Steps p.tables e below (T160.setTop (mkF m 121 #[.val (.int p0), .val (.int p1), .val (.int p2), .val (.int p3), .val (.int p4), .val (.int v6), .val (.int v1), .val (.ref b107), .val (.ref u_CharacterCoding_MARC_8), .val (.ref u_CharacterCoding_MARC_8)] [(.ref u_CharacterCoding_MARC_8), (.ref u_CharacterCoding_MARC_8)])) _
        refine Jvm.RoadKit.acmp (g := (mkF m 121 #[.val (.int p0), .val (.int p1), .val (.int p2), .val (.int p3), .val (.int p4), .val (.int v6), .val (.int v1), .val (.ref b107), .val (.ref u_CharacterCoding_MARC_8), .val (.ref u_CharacterCoding_MARC_8)] [(.ref u_CharacterCoding_MARC_8), (.ref u_CharacterCoding_MARC_8)])) X160 hx rfl rfl rfl (pc0 := 121) (pc' := 124) (same := true) rfl (hb hby at_121) rfl (decide_eq_true (congrArg Value.ref (rfl : u_CharacterCoding_MARC_8 = u_CharacterCoding_MARC_8))) (by decide) (by decide) ?_
        show Steps p.tables e below (T160.setTop (mkF m 124 #[.val (.int p0), .val (.int p1), .val (.int p2), .val (.int p3), .val (.int p4), .val (.int v6), .val (.int v1), .val (.ref b107), .val (.ref u_CharacterCoding_MARC_8), .val (.ref u_CharacterCoding_MARC_8)] [])) _
        refine XS.iconst X160.here hx rfl (hb hby at_124) ?_
        show Steps p.tables e below (T160.setTop (mkF m 125 #[.val (.int p0), .val (.int p1), .val (.int p2), .val (.int p3), .val (.int p4), .val (.int v6), .val (.int v1), .val (.ref b107), .val (.ref u_CharacterCoding_MARC_8), .val (.ref u_CharacterCoding_MARC_8)] [(.int (1 : Int32))])) _
        refine XS.goto X160.here hx rfl (pc0 := 125) (pc' := 129) rfl (hb hby at_125) (by decide) (by decide) ?_
        exact kt
      refine own_go hgo161 ?_
      exact own_retZ X160 hx Bd.returns Bd.notSynchronized (hb hby at_129) (by decide) (by decide) (Or.inr (rfl : (1 : Int32) = 1)) ⟨by rw [(rfl : (1 : Int32) = 1)], N153⟩
    · have hgo165 : ∀ t, Steps p.tables e below (T153.setTop (mkF m 103 #[.val (.int p0), .val (.int p1), .val (.int p2), .val (.int p3), .val (.int p4), .val (.int v6), .val (.int v1), .val (.ref b107), .val (.ref u_CharacterCoding_MARC_8), .unset] [(.int (97 : Int32)), (.int v6)])) t → Steps p.tables e below (T153.setTop (mkF m 88 #[.val (.int p0), .val (.int p1), .val (.int p2), .val (.int p3), .val (.int p4), .val (.int v6), .val (.int v1), .val (.ref b107), .val (.ref u_CharacterCoding_MARC_8), .unset] [(.int (32 : Int32)), (.int v6)])) t := by
        intro t kt
        show Steps p.tables e below (T153.setTop (mkF m 88 #[.val (.int p0), .val (.int p1), .val (.int p2), .val (.int p3), .val (.int p4), .val (.int v6), .val (.int v1), .val (.ref b107), .val (.ref u_CharacterCoding_MARC_8), .unset] [(.int (32 : Int32)), (.int v6)])) _
        refine XS.icmpYes X153.here hx rfl (pc0 := 88) (pc' := 99) rfl (hb hby at_88) rfl (feq hc88_17).2 (by decide) (by decide) ?_
        show Steps p.tables e below (T153.setTop (mkF m 99 #[.val (.int p0), .val (.int p1), .val (.int p2), .val (.int p3), .val (.int p4), .val (.int v6), .val (.int v1), .val (.ref b107), .val (.ref u_CharacterCoding_MARC_8), .unset] [])) _
        refine XS.iload X153.here hx rfl (hb hby at_99) rfl ?_
        show Steps p.tables e below (T153.setTop (mkF m 101 #[.val (.int p0), .val (.int p1), .val (.int p2), .val (.int p3), .val (.int p4), .val (.int v6), .val (.int v1), .val (.ref b107), .val (.ref u_CharacterCoding_MARC_8), .unset] [(.int v6)])) _
        refine XS.bipush X153.here hx rfl (hb hby at_101) ?_
        exact kt
      refine own_go hgo165 ?_
      by_cases hc103_19 : v6 = (97 : Int32)
      · obtain ⟨T166, X166, e166, st166⟩ := getS2 X153 hx hZ hown (host := "") (Or.inl (hw _ (List.mem_of_getElem? (i := 11) rfl))) Via.refl e153 F147 (g := (mkF m 106 #[.val (.int p0), .val (.int p1), .val (.int p2), .val (.int p3), .val (.int p4), .val (.int v6), .val (.int v1), .val (.ref b107), .val (.ref u_CharacterCoding_MARC_8), .unset] [])) rfl (hb hby at_106)
        obtain ⟨v21, hv21⟩ : ∃ z : Int32, z = (if u_CharacterCoding_MARC_8 = u_CharacterCoding_UNICODE then (1 : Int32) else (0 : Int32)) := ⟨_, rfl⟩
        obtain ⟨T169, lc169, X169, N169, e169, st169⟩ := own_mrg (n0 := n0) (h := h144) (g := (mkF m 121 #[.val (.int p0), .val (.int p1), .val (.int p2), .val (.int p3), .val (.int p4), .val (.int v6), .val (.int v1), .val (.ref b107), .val (.ref u_CharacterCoding_MARC_8), .val (.ref u_CharacterCoding_UNICODE)] [(.ref u_CharacterCoding_UNICODE), (.ref u_CharacterCoding_MARC_8)])) (g' := (mkF m 129 #[.val (.int p0), .val (.int p1), .val (.int p2), .val (.int p3), .val (.int p4), .val (.int v6), .val (.int v1), .val (.ref b107), .val (.ref u_CharacterCoding_MARC_8), .val (.ref u_CharacterCoding_UNICODE)] [(.int v21)])) X166 (by
          by_cases hc121_20 : u_CharacterCoding_MARC_8 = u_CharacterCoding_UNICODE
          · have hgo167 : ∀ t, Steps p.tables e below (T166.setTop (mkF m 129 #[.val (.int p0), .val (.int p1), .val (.int p2), .val (.int p3), .val (.int p4), .val (.int v6), .val (.int v1), .val (.ref b107), .val (.ref u_CharacterCoding_MARC_8), .val (.ref u_CharacterCoding_UNICODE)] [(.int (1 : Int32))])) t → Steps p.tables e below (T166.setTop (mkF m 121 #[.val (.int p0), .val (.int p1), .val (.int p2), .val (.int p3), .val (.int p4), .val (.int v6), .val (.int v1), .val (.ref b107), .val (.ref u_CharacterCoding_MARC_8), .val (.ref u_CharacterCoding_UNICODE)] [(.ref u_CharacterCoding_UNICODE), (.ref u_CharacterCoding_MARC_8)])) t := by
              intro t kt
              show Steps p.tables e below (T166.setTop (mkF m 121 #[.val (.int p0), .val (.int p1), .val (.int p2), .val (.int p3), .val (.int p4), .val (.int v6), .val (.int v1), .val (.ref b107), .val (.ref u_CharacterCoding_MARC_8), .val (.ref u_CharacterCoding_UNICODE)] [(.ref u_CharacterCoding_UNICODE), (.ref u_CharacterCoding_MARC_8)])) _
              refine Jvm.RoadKit.acmp (g := (mkF m 121 #[.val (.int p0), .val (.int p1), .val (.int p2), .val (.int p3), .val (.int p4), .val (.int v6), .val (.int v1), .val (.ref b107), .val (.ref u_CharacterCoding_MARC_8), .val (.ref u_CharacterCoding_UNICODE)] [(.ref u_CharacterCoding_UNICODE), (.ref u_CharacterCoding_MARC_8)])) X166 hx rfl rfl rfl (pc0 := 121) (pc' := 124) (same := true) rfl (hb hby at_121) rfl (decide_eq_true (congrArg Value.ref hc121_20)) (by decide) (by decide) ?_
              show Steps p.tables e below (T166.setTop (mkF m 124 #[.val (.int p0), .val (.int p1), .val (.int p2), .val (.int p3), .val (.int p4), .val (.int v6), .val (.int v1), .val (.ref b107), .val (.ref u_CharacterCoding_MARC_8), .val (.ref u_CharacterCoding_UNICODE)] [])) _
              refine XS.iconst X166.here hx rfl (hb hby at_124) ?_
              show Steps p.tables e below (T166.setTop (mkF m 125 #[.val (.int p0), .val (.int p1), .val (.int p2), .val (.int p3), .val (.int p4), .val (.int v6), .val (.int v1), .val (.ref b107), .val (.ref u_CharacterCoding_MARC_8), .val (.ref u_CharacterCoding_UNICODE)] [(.int (1 : Int32))])) _
              refine XS.goto X166.here hx rfl (pc0 := 125) (pc' := 129) rfl (hb hby at_125) (by decide) (by decide) ?_
              exact kt
            refine own_arm hgo167 ?_
            exact own_armEnd X166 N153 e166 (by rw [hv21.trans (if_pos hc121_20)])
          · have hgo168 : ∀ t, Steps p.tables e below (T166.setTop (mkF m 129 #[.val (.int p0), .val (.int p1), .val (.int p2), .val (.int p3), .val (.int p4), .val (.int v6), .val (.int v1), .val (.ref b107), .val (.ref u_CharacterCoding_MARC_8), .val (.ref u_CharacterCoding_UNICODE)] [(.int (0 : Int32))])) t → Steps p.tables e below (T166.setTop (mkF m 121 #[.val (.int p0), .val (.int p1), .val (.int p2), .val (.int p3), .val (.int p4), .val (.int v6), .val (.int v1), .val (.ref b107), .val (.ref u_CharacterCoding_MARC_8), .val (.ref u_CharacterCoding_UNICODE)] [(.ref u_CharacterCoding_UNICODE), (.ref u_CharacterCoding_MARC_8)])) t := by
              intro t kt
              show Steps p.tables e below (T166.setTop (mkF m 121 #[.val (.int p0), .val (.int p1), .val (.int p2), .val (.int p3), .val (.int p4), .val (.int v6), .val (.int v1), .val (.ref b107), .val (.ref u_CharacterCoding_MARC_8), .val (.ref u_CharacterCoding_UNICODE)] [(.ref u_CharacterCoding_UNICODE), (.ref u_CharacterCoding_MARC_8)])) _
              refine Jvm.RoadKit.acmp (g := (mkF m 121 #[.val (.int p0), .val (.int p1), .val (.int p2), .val (.int p3), .val (.int p4), .val (.int v6), .val (.int v1), .val (.ref b107), .val (.ref u_CharacterCoding_MARC_8), .val (.ref u_CharacterCoding_UNICODE)] [(.ref u_CharacterCoding_UNICODE), (.ref u_CharacterCoding_MARC_8)])) X166 hx rfl rfl rfl (pc0 := 121) (pc' := 128) (same := false) rfl (hb hby at_121) rfl (decide_eq_false fun q => hc121_20 (Value.ref.inj q)) (by decide) (by decide) ?_
              show Steps p.tables e below (T166.setTop (mkF m 128 #[.val (.int p0), .val (.int p1), .val (.int p2), .val (.int p3), .val (.int p4), .val (.int v6), .val (.int v1), .val (.ref b107), .val (.ref u_CharacterCoding_MARC_8), .val (.ref u_CharacterCoding_UNICODE)] [])) _
              refine XS.iconst X166.here hx rfl (hb hby at_128) ?_
              exact kt
            refine own_arm hgo168 ?_
            exact own_armEnd X166 N153 e166 (by rw [hv21.trans (if_neg hc121_20)]))
        have hgo170 : ∀ t, Steps p.tables e below (T169.setTop (mkF m 129 #[.val (.int p0), .val (.int p1), .val (.int p2), .val (.int p3), .val (.int p4), .val (.int v6), .val (.int v1), .val (.ref b107), .val (.ref u_CharacterCoding_MARC_8), .val (.ref u_CharacterCoding_UNICODE)] [(.int v21)])) t → Steps p.tables e below (T153.setTop (mkF m 103 #[.val (.int p0), .val (.int p1), .val (.int p2), .val (.int p3), .val (.int p4), .val (.int v6), .val (.int v1), .val (.ref b107), .val (.ref u_CharacterCoding_MARC_8), .unset] [(.int (97 : Int32)), (.int v6)])) t := by
          intro t kt
          show Steps p.tables e below (T153.setTop (mkF m 103 #[.val (.int p0), .val (.int p1), .val (.int p2), .val (.int p3), .val (.int p4), .val (.int v6), .val (.int v1), .val (.ref b107), .val (.ref u_CharacterCoding_MARC_8), .unset] [(.int (97 : Int32)), (.int v6)])) _
          refine XS.icmpNo X153.here hx rfl (hb hby at_103) rfl (teq hc103_19).2 ?_
          show Steps p.tables e below (T153.setTop (mkF m 106 #[.val (.int p0), .val (.int p1), .val (.int p2), .val (.int p3), .val (.int p4), .val (.int v6), .val (.int v1), .val (.ref b107), .val (.ref u_CharacterCoding_MARC_8), .unset] [])) _
          refine st166 _ ?_
          show Steps p.tables e below (T166.setTop (mkF m 109 #[.val (.int p0), .val (.int p1), .val (.int p2), .val (.int p3), .val (.int p4), .val (.int v6), .val (.int v1), .val (.ref b107), .val (.ref u_CharacterCoding_MARC_8), .unset] [(.ref u_CharacterCoding_UNICODE)])) _
          refine XS.astore X166.here hx rfl (hb hby at_109) rfl rfl (l' := #[.val (.int p0), .val (.int p1), .val (.int p2), .val (.int p3), .val (.int p4), .val (.int v6), .val (.int v1), .val (.ref b107), .val (.ref u_CharacterCoding_MARC_8), .val (.ref u_CharacterCoding_UNICODE)]) rfl ?_
          show Steps p.tables e below (T166.setTop (mkF m 111 #[.val (.int p0), .val (.int p1), .val (.int p2), .val (.int p3), .val (.int p4), .val (.int v6), .val (.int v1), .val (.ref b107), .val (.ref u_CharacterCoding_MARC_8), .val (.ref u_CharacterCoding_UNICODE)] [])) _
          refine XS.goto X166.here hx rfl (pc0 := 111) (pc' := 117) rfl (hb hby at_111) (by decide) (by decide) ?_
          show Steps p.tables e below (T166.setTop (mkF m 117 #[.val (.int p0), .val (.int p1), .val (.int p2), .val (.int p3), .val (.int p4), .val (.int v6), .val (.int v1), .val (.ref b107), .val (.ref u_CharacterCoding_MARC_8), .val (.ref u_CharacterCoding_UNICODE)] [])) _
          refine XS.aload X166.here hx rfl (hb hby at_117) rfl rfl ?_
          show Steps p.tables e below (T166.setTop (mkF m 119 #[.val (.int p0), .val (.int p1), .val (.int p2), .val (.int p3), .val (.int p4), .val (.int v6), .val (.int v1), .val (.ref b107), .val (.ref u_CharacterCoding_MARC_8), .val (.ref u_CharacterCoding_UNICODE)] [(.ref u_CharacterCoding_MARC_8)])) _
          refine XS.aload X166.here hx rfl (hb hby at_119) rfl rfl ?_
          show Steps p.tables e below (T166.setTop (mkF m 121 #[.val (.int p0), .val (.int p1), .val (.int p2), .val (.int p3), .val (.int p4), .val (.int v6), .val (.int v1), .val (.ref b107), .val (.ref u_CharacterCoding_MARC_8), .val (.ref u_CharacterCoding_UNICODE)] [(.ref u_CharacterCoding_UNICODE), (.ref u_CharacterCoding_MARC_8)])) _
          refine st169 _ ?_
          exact kt
        refine own_go hgo170 ?_
        have hz171 : v21 = 1 := own_leaf1 (p0 := p0) (p1 := p1) (p2 := p2) (p3 := p3) (p4 := p4) (u_CharacterCoding_MARC_8 := u_CharacterCoding_MARC_8) (u_CharacterCoding_UNICODE := u_CharacterCoding_UNICODE) hv1 hv4 hv5 hv6 hv7 hv8 hv9 hv10 hv11 hv12 hv13 hv14 hv15 hv21 hs79_16 hc88_17 hc103_19
        exact own_retZ X169 hx Bd.returns Bd.notSynchronized (hb hby at_129) (by decide) (by decide) (Or.inr hz171) ⟨by rw [hz171], N169⟩
      · have hgo172 : ∀ t, Steps p.tables e below (T153.setTop (mkF m 129 #[.val (.int p0), .val (.int p1), .val (.int p2), .val (.int p3), .val (.int p4), .val (.int v6), .val (.int v1), .val (.ref b107), .val (.ref u_CharacterCoding_MARC_8), .val .null] [(.int (0 : Int32))])) t → Steps p.tables e below (T153.setTop (mkF m 103 #[.val (.int p0), .val (.int p1), .val (.int p2), .val (.int p3), .val (.int p4), .val (.int v6), .val (.int v1), .val (.ref b107), .val (.ref u_CharacterCoding_MARC_8), .unset] [(.int (97 : Int32)), (.int v6)])) t := by
          intro t kt
          show Steps p.tables e below (T153.setTop (mkF m 103 #[.val (.int p0), .val (.int p1), .val (.int p2), .val (.int p3), .val (.int p4), .val (.int v6), .val (.int v1), .val (.ref b107), .val (.ref u_CharacterCoding_MARC_8), .unset] [(.int (97 : Int32)), (.int v6)])) _
          refine XS.icmpYes X153.here hx rfl (pc0 := 103) (pc' := 114) rfl (hb hby at_103) rfl (feq hc103_19).2 (by decide) (by decide) ?_
          show Steps p.tables e below (T153.setTop (mkF m 114 #[.val (.int p0), .val (.int p1), .val (.int p2), .val (.int p3), .val (.int p4), .val (.int v6), .val (.int v1), .val (.ref b107), .val (.ref u_CharacterCoding_MARC_8), .unset] [])) _
          refine XS.aconstNull X153.here hx rfl (hb hby at_114) ?_
          show Steps p.tables e below (T153.setTop (mkF m 115 #[.val (.int p0), .val (.int p1), .val (.int p2), .val (.int p3), .val (.int p4), .val (.int v6), .val (.int v1), .val (.ref b107), .val (.ref u_CharacterCoding_MARC_8), .unset] [.null])) _
          refine XS.astore X153.here hx rfl (hb hby at_115) rfl rfl (l' := #[.val (.int p0), .val (.int p1), .val (.int p2), .val (.int p3), .val (.int p4), .val (.int v6), .val (.int v1), .val (.ref b107), .val (.ref u_CharacterCoding_MARC_8), .val .null]) rfl ?_
          show Steps p.tables e below (T153.setTop (mkF m 117 #[.val (.int p0), .val (.int p1), .val (.int p2), .val (.int p3), .val (.int p4), .val (.int v6), .val (.int v1), .val (.ref b107), .val (.ref u_CharacterCoding_MARC_8), .val .null] [])) _
          refine XS.aload X153.here hx rfl (hb hby at_117) rfl rfl ?_
          show Steps p.tables e below (T153.setTop (mkF m 119 #[.val (.int p0), .val (.int p1), .val (.int p2), .val (.int p3), .val (.int p4), .val (.int v6), .val (.int v1), .val (.ref b107), .val (.ref u_CharacterCoding_MARC_8), .val .null] [(.ref u_CharacterCoding_MARC_8)])) _
          refine XS.aload X153.here hx rfl (hb hby at_119) rfl rfl ?_
          show Steps p.tables e below (T153.setTop (mkF m 121 #[.val (.int p0), .val (.int p1), .val (.int p2), .val (.int p3), .val (.int p4), .val (.int v6), .val (.int v1), .val (.ref b107), .val (.ref u_CharacterCoding_MARC_8), .val .null] [.null, (.ref u_CharacterCoding_MARC_8)])) _
          refine Jvm.RoadKit.acmp (g := (mkF m 121 #[.val (.int p0), .val (.int p1), .val (.int p2), .val (.int p3), .val (.int p4), .val (.int v6), .val (.int v1), .val (.ref b107), .val (.ref u_CharacterCoding_MARC_8), .val .null] [.null, (.ref u_CharacterCoding_MARC_8)])) X153 hx rfl rfl rfl (pc0 := 121) (pc' := 128) (same := false) rfl (hb hby at_121) rfl (decide_eq_false nofun) (by decide) (by decide) ?_
          show Steps p.tables e below (T153.setTop (mkF m 128 #[.val (.int p0), .val (.int p1), .val (.int p2), .val (.int p3), .val (.int p4), .val (.int v6), .val (.int v1), .val (.ref b107), .val (.ref u_CharacterCoding_MARC_8), .val .null] [])) _
          refine XS.iconst X153.here hx rfl (hb hby at_128) ?_
          exact kt
        refine own_go hgo172 ?_
        have hz173 : (0 : Int32) = 1 := own_leaf2 (p0 := p0) (p1 := p1) (p2 := p2) (p3 := p3) (p4 := p4) (u_CharacterCoding_MARC_8 := u_CharacterCoding_MARC_8) (u_CharacterCoding_UNICODE := u_CharacterCoding_UNICODE) hv1 hv4 hv5 hv6 hv7 hv8 hv9 hv10 hv11 hv12 hv13 hv14 hv15 hs79_16 hc88_17 hc103_19
        exact own_retZ X153 hx Bd.returns Bd.notSynchronized (hb hby at_129) (by decide) (by decide) (Or.inr hz173) ⟨by rw [hz173], N153⟩
  by_cases hs79_22 : (v15 9) = (97 : Int32)
  · obtain ⟨_, _, ⟨T174, L174, k174, n174⟩, -, X174, ⟨Lc174, hQ174, l174, y174, z174⟩, st174⟩ := Jvm.LawKit.callS X144 hx (y := (⟨"org/tagwright/core/CharacterCoding", "of", "([B)Lorg/tagwright/core/CharacterCoding;"⟩ : MethodName)) hown (mvT hZ (hw _ (List.mem_of_getElem? (i := 2) rfl))) (mvT hZ (hw _ (List.mem_of_getElem? (i := 3) rfl))) (mvT hZ (hw _ (List.mem_of_getElem? (i := 4) rfl))) (mvT hZ (hw _ (List.mem_of_getElem? (i := 5) rfl))) (by decide) (backOf (W := 0) (rm1b l Z a0 hw [] b107 v15 u_CharacterCoding_UNICODE h144 n0 Z149 B144n (by first | assumption | decide : ¬ ((v15 9) = (32 : Int32))) (by first | assumption | decide : (v15 9) = (97 : Int32)) F147) hZ (hw _ (List.mem_of_getElem? (i := 5) rfl)) (hw _ (List.mem_of_getElem? (i := 4) rfl)) (by decide) (by decide)) (g := (mkF m 79 #[.val (.int p0), .val (.int p1), .val (.int p2), .val (.int p3), .val (.int p4), .val (.int v6), .val (.int v1), .val (.ref b107), .unset, .unset] [(.ref b107)])) rfl (by rw [hml]; rfl) (argsL := [(.ref b107)]) (rest := []) (lenOf pd1 rfl) rfl (by show 2 * 0 + _ ≤ _; exact Nat.le_of_eq rfl) (hb hby at_79) (fun _ _ => ⟨rfl, e144, (by decide : 1 + 0 ≤ _), (by decide : 24 + 0 ≤ _)⟩)
    dsimp only [Pt.U, Pt.locs, Pt.cells, Pt.slots] at X174 l174 y174 z174 st174 hQ174
    subst l174 y174 z174
    obtain ⟨rfl, N174q, e174⟩ := hQ174
    have N174 := Fr.app N151 N174q
    have hgo180 : ∀ t, Steps p.tables e below (T174.setTop (mkF m 88 #[.val (.int p0), .val (.int p1), .val (.int p2), .val (.int p3), .val (.int p4), .val (.int v6), .val (.int v1), .val (.ref b107), .val (.ref u_CharacterCoding_UNICODE), .unset] [(.int (32 : Int32)), (.int v6)])) t → Steps p.tables e below (T144.setTop (mkF m 79 #[.val (.int p0), .val (.int p1), .val (.int p2), .val (.int p3), .val (.int p4), .val (.int v6), .val (.int v1), .val (.ref b107), .unset, .unset] [(.ref b107)])) t := by
      intro t kt
      show Steps p.tables e below (T144.setTop (mkF m 79 #[.val (.int p0), .val (.int p1), .val (.int p2), .val (.int p3), .val (.int p4), .val (.int v6), .val (.int v1), .val (.ref b107), .unset, .unset] [(.ref b107)])) _
      refine st174 _ ?_
      show Steps p.tables e below (T174.setTop (mkF m 82 #[.val (.int p0), .val (.int p1), .val (.int p2), .val (.int p3), .val (.int p4), .val (.int v6), .val (.int v1), .val (.ref b107), .unset, .unset] [(.ref u_CharacterCoding_UNICODE)])) _
      refine XS.astore X174.here hx rfl (hb hby at_82) rfl rfl (l' := #[.val (.int p0), .val (.int p1), .val (.int p2), .val (.int p3), .val (.int p4), .val (.int v6), .val (.int v1), .val (.ref b107), .val (.ref u_CharacterCoding_UNICODE), .unset]) rfl ?_
      show Steps p.tables e below (T174.setTop (mkF m 84 #[.val (.int p0), .val (.int p1), .val (.int p2), .val (.int p3), .val (.int p4), .val (.int v6), .val (.int v1), .val (.ref b107), .val (.ref u_CharacterCoding_UNICODE), .unset] [])) _
      refine XS.iload X174.here hx rfl (hb hby at_84) rfl ?_
      show Steps p.tables e below (T174.setTop (mkF m 86 #[.val (.int p0), .val (.int p1), .val (.int p2), .val (.int p3), .val (.int p4), .val (.int v6), .val (.int v1), .val (.ref b107), .val (.ref u_CharacterCoding_UNICODE), .unset] [(.int v6)])) _
      refine XS.bipush X174.here hx rfl (hb hby at_86) ?_
      exact kt
    refine own_go hgo180 ?_
    by_cases hc88_23 : v6 = (32 : Int32)
    · obtain ⟨T181, X181, e181, st181⟩ := getS2 X174 hx hZ hown (host := "") (Or.inl (hw _ (List.mem_of_getElem? (i := 8) rfl))) Via.refl e174 F145 (g := (mkF m 91 #[.val (.int p0), .val (.int p1), .val (.int p2), .val (.int p3), .val (.int p4), .val (.int v6), .val (.int v1), .val (.ref b107), .val (.ref u_CharacterCoding_UNICODE), .unset] [])) rfl (hb hby at_91)
      obtain ⟨v26, hv26⟩ : ∃ z : Int32, z = (if u_CharacterCoding_UNICODE = u_CharacterCoding_MARC_8 then (1 : Int32) else (0 : Int32)) := ⟨_, rfl⟩
      obtain ⟨T184, lc184, X184, N184, e184, st184⟩ := own_mrg (n0 := n0) (h := h144) (g := (mkF m 121 #[.val (.int p0), .val (.int p1), .val (.int p2), .val (.int p3), .val (.int p4), .val (.int v6), .val (.int v1), .val (.ref b107), .val (.ref u_CharacterCoding_UNICODE), .val (.ref u_CharacterCoding_MARC_8)] [(.ref u_CharacterCoding_MARC_8), (.ref u_CharacterCoding_UNICODE)])) (g' := (mkF m 129 #[.val (.int p0), .val (.int p1), .val (.int p2), .val (.int p3), .val (.int p4), .val (.int v6), .val (.int v1), .val (.ref b107), .val (.ref u_CharacterCoding_UNICODE), .val (.ref u_CharacterCoding_MARC_8)] [(.int v26)])) X181 (by
        by_cases hc121_25 : u_CharacterCoding_UNICODE = u_CharacterCoding_MARC_8
        · have hgo182 : ∀ t, Steps p.tables e below (T181.setTop (mkF m 129 #[.val (.int p0), .val (.int p1), .val (.int p2), .val (.int p3), .val (.int p4), .val (.int v6), .val (.int v1), .val (.ref b107), .val (.ref u_CharacterCoding_UNICODE), .val (.ref u_CharacterCoding_MARC_8)] [(.int (1 : Int32))])) t → Steps p.tables e below (T181.setTop (mkF m 121 #[.val (.int p0), .val (.int p1), .val (.int p2), .val (.int p3), .val (.int p4), .val (.int v6), .val (.int v1), .val (.ref b107), .val (.ref u_CharacterCoding_UNICODE), .val (.ref u_CharacterCoding_MARC_8)] [(.ref u_CharacterCoding_MARC_8), (.ref u_CharacterCoding_UNICODE)])) t := by
            intro t kt
            show Steps p.tables e below (T181.setTop (mkF m 121 #[.val (.int p0), .val (.int p1), .val (.int p2), .val (.int p3), .val (.int p4), .val (.int v6), .val (.int v1), .val (.ref b107), .val (.ref u_CharacterCoding_UNICODE), .val (.ref u_CharacterCoding_MARC_8)] [(.ref u_CharacterCoding_MARC_8), (.ref u_CharacterCoding_UNICODE)])) _
            refine Jvm.RoadKit.acmp (g := (mkF m 121 #[.val (.int p0), .val (.int p1), .val (.int p2), .val (.int p3), .val (.int p4), .val (.int v6), .val (.int v1), .val (.ref b107), .val (.ref u_CharacterCoding_UNICODE), .val (.ref u_CharacterCoding_MARC_8)] [(.ref u_CharacterCoding_MARC_8), (.ref u_CharacterCoding_UNICODE)])) X181 hx rfl rfl rfl (pc0 := 121) (pc' := 124) (same := true) rfl (hb hby at_121) rfl (decide_eq_true (congrArg Value.ref hc121_25)) (by decide) (by decide) ?_
            show Steps p.tables e below (T181.setTop (mkF m 124 #[.val (.int p0), .val (.int p1), .val (.int p2), .val (.int p3), .val (.int p4), .val (.int v6), .val (.int v1), .val (.ref b107), .val (.ref u_CharacterCoding_UNICODE), .val (.ref u_CharacterCoding_MARC_8)] [])) _
            refine XS.iconst X181.here hx rfl (hb hby at_124) ?_
            show Steps p.tables e below (T181.setTop (mkF m 125 #[.val (.int p0), .val (.int p1), .val (.int p2), .val (.int p3), .val (.int p4), .val (.int v6), .val (.int v1), .val (.ref b107), .val (.ref u_CharacterCoding_UNICODE), .val (.ref u_CharacterCoding_MARC_8)] [(.int (1 : Int32))])) _
            refine XS.goto X181.here hx rfl (pc0 := 125) (pc' := 129) rfl (hb hby at_125) (by decide) (by decide) ?_
            exact kt
          refine own_arm hgo182 ?_
          exact own_armEnd X181 N174 e181 (by rw [hv26.trans (if_pos hc121_25)])
        · have hgo183 : ∀ t, Steps p.tables e below (T181.setTop (mkF m 129 #[.val (.int p0), .val (.int p1), .val (.int p2), .val (.int p3), .val (.int p4), .val (.int v6), .val (.int v1), .val (.ref b107), .val (.ref u_CharacterCoding_UNICODE), .val (.ref u_CharacterCoding_MARC_8)] [(.int (0 : Int32))])) t → Steps p.tables e below (T181.setTop (mkF m 121 #[.val (.int p0), .val (.int p1), .val (.int p2), .val (.int p3), .val (.int p4), .val (.int v6), .val (.int v1), .val (.ref b107), .val (.ref u_CharacterCoding_UNICODE), .val (.ref u_CharacterCoding_MARC_8)] [(.ref u_CharacterCoding_MARC_8), (.ref u_CharacterCoding_UNICODE)])) t := by
            intro t kt
            show Steps p.tables e below (T181.setTop (mkF m 121 #[.val (.int p0), .val (.int p1), .val (.int p2), .val (.int p3), .val (.int p4), .val (.int v6), .val (.int v1), .val (.ref b107), .val (.ref u_CharacterCoding_UNICODE), .val (.ref u_CharacterCoding_MARC_8)] [(.ref u_CharacterCoding_MARC_8), (.ref u_CharacterCoding_UNICODE)])) _
            refine Jvm.RoadKit.acmp (g := (mkF m 121 #[.val (.int p0), .val (.int p1), .val (.int p2), .val (.int p3), .val (.int p4), .val (.int v6), .val (.int v1), .val (.ref b107), .val (.ref u_CharacterCoding_UNICODE), .val (.ref u_CharacterCoding_MARC_8)] [(.ref u_CharacterCoding_MARC_8), (.ref u_CharacterCoding_UNICODE)])) X181 hx rfl rfl rfl (pc0 := 121) (pc' := 128) (same := false) rfl (hb hby at_121) rfl (decide_eq_false fun q => hc121_25 (Value.ref.inj q)) (by decide) (by decide) ?_
            show Steps p.tables e below (T181.setTop (mkF m 128 #[.val (.int p0), .val (.int p1), .val (.int p2), .val (.int p3), .val (.int p4), .val (.int v6), .val (.int v1), .val (.ref b107), .val (.ref u_CharacterCoding_UNICODE), .val (.ref u_CharacterCoding_MARC_8)] [])) _
            refine XS.iconst X181.here hx rfl (hb hby at_128) ?_
            exact kt
          refine own_arm hgo183 ?_
          exact own_armEnd X181 N174 e181 (by rw [hv26.trans (if_neg hc121_25)]))
      have hgo185 : ∀ t, Steps p.tables e below (T184.setTop (mkF m 129 #[.val (.int p0), .val (.int p1), .val (.int p2), .val (.int p3), .val (.int p4), .val (.int v6), .val (.int v1), .val (.ref b107), .val (.ref u_CharacterCoding_UNICODE), .val (.ref u_CharacterCoding_MARC_8)] [(.int v26)])) t → Steps p.tables e below (T174.setTop (mkF m 88 #[.val (.int p0), .val (.int p1), .val (.int p2), .val (.int p3), .val (.int p4), .val (.int v6), .val (.int v1), .val (.ref b107), .val (.ref u_CharacterCoding_UNICODE), .unset] [(.int (32 : Int32)), (.int v6)])) t := by
        intro t kt
        show Steps p.tables e below (T174.setTop (mkF m 88 #[.val (.int p0), .val (.int p1), .val (.int p2), .val (.int p3), .val (.int p4), .val (.int v6), .val (.int v1), .val (.ref b107), .val (.ref u_CharacterCoding_UNICODE), .unset] [(.int (32 : Int32)), (.int v6)])) _
        refine XS.icmpNo X174.here hx rfl (hb hby at_88) rfl (teq hc88_23).2 ?_
        show Steps p.tables e below (T174.setTop (mkF m 91 #[.val (.int p0), .val (.int p1), .val (.int p2), .val (.int p3), .val (.int p4), .val (.int v6), .val (.int v1), .val (.ref b107), .val (.ref u_CharacterCoding_UNICODE), .unset] [])) _
        refine st181 _ ?_
        show Steps p.tables e below (T181.setTop (mkF m 94 #[.val (.int p0), .val (.int p1), .val (.int p2), .val (.int p3), .val (.int p4), .val (.int v6), .val (.int v1), .val (.ref b107), .val (.ref u_CharacterCoding_UNICODE), .unset] [(.ref u_CharacterCoding_MARC_8)])) _
        refine XS.astore X181.here hx rfl (hb hby at_94) rfl rfl (l' := #[.val (.int p0), .val (.int p1), .val (.int p2), .val (.int p3), .val (.int p4), .val (.int v6), .val (.int v1), .val (.ref b107), .val (.ref u_CharacterCoding_UNICODE), .val (.ref u_CharacterCoding_MARC_8)]) rfl ?_
        show Steps p.tables e below (T181.setTop (mkF m 96 #[.val (.int p0), .val (.int p1), .val (.int p2), .val (.int p3), .val (.int p4), .val (.int v6), .val (.int v1), .val (.ref b107), .val (.ref u_CharacterCoding_UNICODE), .val (.ref u_CharacterCoding_MARC_8)] [])) _
        refine XS.goto X181.here hx rfl (pc0 := 96) (pc' := 117) rfl (hb hby at_96) (by decide) (by decide) ?_
        show Steps p.tables e below (T181.setTop (mkF m 117 #[.val (.int p0), .val (.int p1), .val (.int p2), .val (.int p3), .val (.int p4), .val (.int v6), .val (.int v1), .val (.ref b107), .val (.ref u_CharacterCoding_UNICODE), .val (.ref u_CharacterCoding_MARC_8)] [])) _
        refine XS.aload X181.here hx rfl (hb hby at_117) rfl rfl ?_
        show Steps p.tables e below (T181.setTop (mkF m 119 #[.val (.int p0), .val (.int p1), .val (.int p2), .val (.int p3), .val (.int p4), .val (.int v6), .val (.int v1), .val (.ref b107), .val (.ref u_CharacterCoding_UNICODE), .val (.ref u_CharacterCoding_MARC_8)] [(.ref u_CharacterCoding_UNICODE)])) _
        refine XS.aload X181.here hx rfl (hb hby at_119) rfl rfl ?_
        show Steps p.tables e below (T181.setTop (mkF m 121 #[.val (.int p0), .val (.int p1), .val (.int p2), .val (.int p3), .val (.int p4), .val (.int v6), .val (.int v1), .val (.ref b107), .val (.ref u_CharacterCoding_UNICODE), .val (.ref u_CharacterCoding_MARC_8)] [(.ref u_CharacterCoding_MARC_8), (.ref u_CharacterCoding_UNICODE)])) _
        refine st184 _ ?_
        exact kt
      refine own_go hgo185 ?_
      have hz186 : v26 = 1 := own_leaf3 (p0 := p0) (p1 := p1) (p2 := p2) (p3 := p3) (p4 := p4) (u_CharacterCoding_MARC_8 := u_CharacterCoding_MARC_8) (u_CharacterCoding_UNICODE := u_CharacterCoding_UNICODE) hv1 hv4 hv5 hv6 hv7 hv8 hv9 hv10 hv11 hv12 hv13 hv14 hv15 hv26 hs79_16 hs79_22 hc88_23
      exact own_retZ X184 hx Bd.returns Bd.notSynchronized (hb hby at_129) (by decide) (by decide) (Or.inr hz186) ⟨by rw [hz186], N184⟩
    · have hgo190 : ∀ t, Steps p.tables e below (T174.setTop (mkF m 103 #[.val (.int p0), .val (.int p1), .val (.int p2), .val (.int p3), .val (.int p4), .val (.int v6), .val (.int v1), .val (.ref b107), .val (.ref u_CharacterCoding_UNICODE), .unset] [(.int (97 : Int32)), (.int v6)])) t → Steps p.tables e below (T174.setTop (mkF m 88 #[.val (.int p0), .val (.int p1), .val (.int p2), .val (.int p3), .val (.int p4), .val (.int v6), .val (.int v1), .val (.ref b107), .val (.ref u_CharacterCoding_UNICODE), .unset] [(.int (32 : Int32)), (.int v6)])) t := by
        intro t kt
        show Steps p.tables e below (T174.setTop (mkF m 88 #[.val (.int p0), .val (.int p1), .val (.int p2), .val (.int p3), .val (.int p4), .val (.int v6), .val (.int v1), .val (.ref b107), .val (.ref u_CharacterCoding_UNICODE), .unset] [(.int (32 : Int32)), (.int v6)])) _
        refine XS.icmpYes X174.here hx rfl (pc0 := 88) (pc' := 99) rfl (hb hby at_88) rfl (feq hc88_23).2 (by decide) (by decide) ?_
        show Steps p.tables e below (T174.setTop (mkF m 99 #[.val (.int p0), .val (.int p1), .val (.int p2), .val (.int p3), .val (.int p4), .val (.int v6), .val (.int v1), .val (.ref b107), .val (.ref u_CharacterCoding_UNICODE), .unset] [])) _
        refine XS.iload X174.here hx rfl (hb hby at_99) rfl ?_
        show Steps p.tables e below (T174.setTop (mkF m 101 #[.val (.int p0), .val (.int p1), .val (.int p2), .val (.int p3), .val (.int p4), .val (.int v6), .val (.int v1), .val (.ref b107), .val (.ref u_CharacterCoding_UNICODE), .unset] [(.int v6)])) _
        refine XS.bipush X174.here hx rfl (hb hby at_101) ?_
        exact kt
      refine own_go hgo190 ?_
      by_cases hc103_27 : v6 = (97 : Int32)
      · obtain ⟨T191, X191, e191, st191⟩ := getS2 X174 hx hZ hown (host := "") (Or.inl (hw _ (List.mem_of_getElem? (i := 11) rfl))) Via.refl e174 F147 (g := (mkF m 106 #[.val (.int p0), .val (.int p1), .val (.int p2), .val (.int p3), .val (.int p4), .val (.int v6), .val (.int v1), .val (.ref b107), .val (.ref u_CharacterCoding_UNICODE), .unset] [])) rfl (hb hby at_106)
        have hgo192 : ∀ t, Steps p.tables e below (T191.setTop (mkF m 129 #[.val (.int p0), .val (.int p1), .val (.int p2), .val (.int p3), .val (.int p4), .val (.int v6), .val (.int v1), .val (.ref b107), .val (.ref u_CharacterCoding_UNICODE), .val (.ref u_CharacterCoding_UNICODE)] [(.int (1 : Int32))])) t → Steps p.tables e below (T174.setTop (mkF m 103 #[.val (.int p0), .val (.int p1), .val (.int p2), .val (.int p3), .val (.int p4), .val (.int v6), .val (.int v1), .val (.ref b107), .val (.ref u_CharacterCoding_UNICODE), .unset] [(.int (97 : Int32)), (.int v6)])) t := by
          intro t kt
          show Steps p.tables e below (T174.setTop (mkF m 103 #[.val (.int p0), .val (.int p1), .val (.int p2), .val (.int p3), .val (.int p4), .val (.int v6), .val (.int v1), .val (.ref b107), .val (.ref u_CharacterCoding_UNICODE), .unset] [(.int (97 : Int32)), (.int v6)])) _
          refine XS.icmpNo X174.here hx rfl (hb hby at_103) rfl (teq hc103_27).2 ?_
          show Steps p.tables e below (T174.setTop (mkF m 106 #[.val (.int p0), .val (.int p1), .val (.int p2), .val (.int p3), .val (.int p4), .val (.int v6), .val (.int v1), .val (.ref b107), .val (.ref u_CharacterCoding_UNICODE), .unset] [])) _
          refine st191 _ ?_
          show Steps p.tables e below (T191.setTop (mkF m 109 #[.val (.int p0), .val (.int p1), .val (.int p2), .val (.int p3), .val (.int p4), .val (.int v6), .val (.int v1), .val (.ref b107), .val (.ref u_CharacterCoding_UNICODE), .unset] [(.ref u_CharacterCoding_UNICODE)])) _
          refine XS.astore X191.here hx rfl (hb hby at_109) rfl rfl (l' := #[.val (.int p0), .val (.int p1), .val (.int p2), .val (.int p3), .val (.int p4), .val (.int v6), .val (.int v1), .val (.ref b107), .val (.ref u_CharacterCoding_UNICODE), .val (.ref u_CharacterCoding_UNICODE)]) rfl ?_
          show Steps p.tables e below (T191.setTop (mkF m 111 #[.val (.int p0), .val (.int p1), .val (.int p2), .val (.int p3), .val (.int p4), .val (.int v6), .val (.int v1), .val (.ref b107), .val (.ref u_CharacterCoding_UNICODE), .val (.ref u_CharacterCoding_UNICODE)] [])) _
          refine XS.goto X191.here hx rfl (pc0 := 111) (pc' := 117) rfl (hb hby at_111) (by decide) (by decide) ?_
          show Steps p.tables e below (T191.setTop (mkF m 117 #[.val (.int p0), .val (.int p1), .val (.int p2), .val (.int p3), .val (.int p4), .val (.int v6), .val (.int v1), .val (.ref b107), .val (.ref u_CharacterCoding_UNICODE), .val (.ref u_CharacterCoding_UNICODE)] [])) _
          refine XS.aload X191.here hx rfl (hb hby at_117) rfl rfl ?_
          show Steps p.tables e below (T191.setTop (mkF m 119 #[.val (.int p0), .val (.int p1), .val (.int p2), .val (.int p3), .val (.int p4), .val (.int v6), .val (.int v1), .val (.ref b107), .val (.ref u_CharacterCoding_UNICODE), .val (.ref u_CharacterCoding_UNICODE)] [(.ref u_CharacterCoding_UNICODE)])) _
          refine XS.aload X191.here hx rfl (hb hby at_119) rfl rfl ?_
          show Steps p.tables e below (T191.setTop (mkF m 121 #[.val (.int p0), .val (.int p1), .val (.int p2), .val (.int p3), .val (.int p4), .val (.int v6), .val (.int v1), .val (.ref b107), .val (.ref u_CharacterCoding_UNICODE), .val (.ref u_CharacterCoding_UNICODE)] [(.ref u_CharacterCoding_UNICODE), (.ref u_CharacterCoding_UNICODE)])) _
          refine Jvm.RoadKit.acmp (g := (mkF m 121 #[.val (.int p0), .val (.int p1), .val (.int p2), .val (.int p3), .val (.int p4), .val (.int v6), .val (.int v1), .val (.ref b107), .val (.ref u_CharacterCoding_UNICODE), .val (.ref u_CharacterCoding_UNICODE)] [(.ref u_CharacterCoding_UNICODE), (.ref u_CharacterCoding_UNICODE)])) X191 hx rfl rfl rfl (pc0 := 121) (pc' := 124) (same := true) rfl (hb hby at_121) rfl (decide_eq_true (congrArg Value.ref (rfl : u_CharacterCoding_UNICODE = u_CharacterCoding_UNICODE))) (by decide) (by decide) ?_
          show Steps p.tables e below (T191.setTop (mkF m 124 #[.val (.int p0), .val (.int p1), .val (.int p2), .val (.int p3), .val (.int p4), .val (.int v6), .val (.int v1), .val (.ref b107), .val (.ref u_CharacterCoding_UNICODE), .val (.ref u_CharacterCoding_UNICODE)] [])) _
          refine XS.iconst X191.here hx rfl (hb hby at_124) ?_
          show Steps p.tables e below (T191.setTop (mkF m 125 #[.val (.int p0), .val (.int p1), .val (.int p2), .val (.int p3), .val (.int p4), .val (.int v6), .val (.int v1), .val (.ref b107), .val (.ref u_CharacterCoding_UNICODE), .val (.ref u_CharacterCoding_UNICODE)] [(.int (1 : Int32))])) _
          refine XS.goto X191.here hx rfl (pc0 := 125) (pc' := 129) rfl (hb hby at_125) (by decide) (by decide) ?_
          exact kt
        refine own_go hgo192 ?_
        exact own_retZ X191 hx Bd.returns Bd.notSynchronized (hb hby at_129) (by decide) (by decide) (Or.inr (rfl : (1 : Int32) = 1)) ⟨by rw [(rfl : (1 : Int32) = 1)], N174⟩
      · have hgo193 : ∀ t, Steps p.tables e below (T174.setTop (mkF m 129 #[.val (.int p0), .val (.int p1), .val (.int p2), .val (.int p3), .val (.int p4), .val (.int v6), .val (.int v1), .val (.ref b107), .val (.ref u_CharacterCoding_UNICODE), .val .null] [(.int (0 : Int32))])) t → Steps p.tables e below (T174.setTop (mkF m 103 #[.val (.int p0), .val (.int p1), .val (.int p2), .val (.int p3), .val (.int p4), .val (.int v6), .val (.int v1), .val (.ref b107), .val (.ref u_CharacterCoding_UNICODE), .unset] [(.int (97 : Int32)), (.int v6)])) t := by
          intro t kt
          show Steps p.tables e below (T174.setTop (mkF m 103 #[.val (.int p0), .val (.int p1), .val (.int p2), .val (.int p3), .val (.int p4), .val (.int v6), .val (.int v1), .val (.ref b107), .val (.ref u_CharacterCoding_UNICODE), .unset] [(.int (97 : Int32)), (.int v6)])) _
          refine XS.icmpYes X174.here hx rfl (pc0 := 103) (pc' := 114) rfl (hb hby at_103) rfl (feq hc103_27).2 (by decide) (by decide) ?_
          show Steps p.tables e below (T174.setTop (mkF m 114 #[.val (.int p0), .val (.int p1), .val (.int p2), .val (.int p3), .val (.int p4), .val (.int v6), .val (.int v1), .val (.ref b107), .val (.ref u_CharacterCoding_UNICODE), .unset] [])) _
          refine XS.aconstNull X174.here hx rfl (hb hby at_114) ?_
          show Steps p.tables e below (T174.setTop (mkF m 115 #[.val (.int p0), .val (.int p1), .val (.int p2), .val (.int p3), .val (.int p4), .val (.int v6), .val (.int v1), .val (.ref b107), .val (.ref u_CharacterCoding_UNICODE), .unset] [.null])) _
          refine XS.astore X174.here hx rfl (hb hby at_115) rfl rfl (l' := #[.val (.int p0), .val (.int p1), .val (.int p2), .val (.int p3), .val (.int p4), .val (.int v6), .val (.int v1), .val (.ref b107), .val (.ref u_CharacterCoding_UNICODE), .val .null]) rfl ?_
          show Steps p.tables e below (T174.setTop (mkF m 117 #[.val (.int p0), .val (.int p1), .val (.int p2), .val (.int p3), .val (.int p4), .val (.int v6), .val (.int v1), .val (.ref b107), .val (.ref u_CharacterCoding_UNICODE), .val .null] [])) _
          refine XS.aload X174.here hx rfl (hb hby at_117) rfl rfl ?_
          show Steps p.tables e below (T174.setTop (mkF m 119 #[.val (.int p0), .val (.int p1), .val (.int p2), .val (.int p3), .val (.int p4), .val (.int v6), .val (.int v1), .val (.ref b107), .val (.ref u_CharacterCoding_UNICODE), .val .null] [(.ref u_CharacterCoding_UNICODE)])) _
          refine XS.aload X174.here hx rfl (hb hby at_119) rfl rfl ?_
          show Steps p.tables e below (T174.setTop (mkF m 121 #[.val (.int p0), .val (.int p1), .val (.int p2), .val (.int p3), .val (.int p4), .val (.int v6), .val (.int v1), .val (.ref b107), .val (.ref u_CharacterCoding_UNICODE), .val .null] [.null, (.ref u_CharacterCoding_UNICODE)])) _
          refine Jvm.RoadKit.acmp (g := (mkF m 121 #[.val (.int p0), .val (.int p1), .val (.int p2), .val (.int p3), .val (.int p4), .val (.int v6), .val (.int v1), .val (.ref b107), .val (.ref u_CharacterCoding_UNICODE), .val .null] [.null, (.ref u_CharacterCoding_UNICODE)])) X174 hx rfl rfl rfl (pc0 := 121) (pc' := 128) (same := false) rfl (hb hby at_121) rfl (decide_eq_false nofun) (by decide) (by decide) ?_
          show Steps p.tables e below (T174.setTop (mkF m 128 #[.val (.int p0), .val (.int p1), .val (.int p2), .val (.int p3), .val (.int p4), .val (.int v6), .val (.int v1), .val (.ref b107), .val (.ref u_CharacterCoding_UNICODE), .val .null] [])) _
          refine XS.iconst X174.here hx rfl (hb hby at_128) ?_
          exact kt
        refine own_go hgo193 ?_
        have hz194 : (0 : Int32) = 1 := own_leaf5 (p0 := p0) (p1 := p1) (p2 := p2) (p3 := p3) (p4 := p4) (u_CharacterCoding_MARC_8 := u_CharacterCoding_MARC_8) (u_CharacterCoding_UNICODE := u_CharacterCoding_UNICODE) hv1 hv4 hv5 hv6 hv7 hv8 hv9 hv10 hv11 hv12 hv13 hv14 hv15 hs79_16 hs79_22 hc88_23 hc103_27
        exact own_retZ X174 hx Bd.returns Bd.notSynchronized (hb hby at_129) (by decide) (by decide) (Or.inr hz194) ⟨by rw [hz194], N174⟩
  · obtain ⟨_, _, ⟨T195, L195, k195, n195⟩, -, X195, ⟨Lc195, hQ195, l195, y195, z195⟩, st195⟩ := Jvm.LawKit.callS X144 hx (y := (⟨"org/tagwright/core/CharacterCoding", "of", "([B)Lorg/tagwright/core/CharacterCoding;"⟩ : MethodName)) hown (mvT hZ (hw _ (List.mem_of_getElem? (i := 2) rfl))) (mvT hZ (hw _ (List.mem_of_getElem? (i := 3) rfl))) (mvT hZ (hw _ (List.mem_of_getElem? (i := 4) rfl))) (mvT hZ (hw _ (List.mem_of_getElem? (i := 5) rfl))) (by decide) (backOf (W := 0) (rm1c l Z a0 hw [] b107 v15 h144 n0 Z149 B144n (by first | assumption | decide : ¬ ((v15 9) = (32 : Int32))) (by first | assumption | decide : ¬ ((v15 9) = (97 : Int32)))) hZ (hw _ (List.mem_of_getElem? (i := 5) rfl)) (hw _ (List.mem_of_getElem? (i := 4) rfl)) (by decide) (by decide)) (g := (mkF m 79 #[.val (.int p0), .val (.int p1), .val (.int p2), .val (.int p3), .val (.int p4), .val (.int v6), .val (.int v1), .val (.ref b107), .unset, .unset] [(.ref b107)])) rfl (by rw [hml]; rfl) (argsL := [(.ref b107)]) (rest := []) (lenOf pd1 rfl) rfl (by show 2 * 0 + _ ≤ _; exact Nat.le_of_eq rfl) (hb hby at_79) (fun _ _ => ⟨rfl, e144, (by decide : 1 + 0 ≤ _), (by decide : 24 + 0 ≤ _)⟩)
    dsimp only [Pt.U, Pt.locs, Pt.cells, Pt.slots] at X195 l195 y195 z195 st195 hQ195
    subst l195 y195 z195
    obtain ⟨rfl, N195q, e195⟩ := hQ195
    have N195 := Fr.app N151 N195q
    have hgo201 : ∀ t, Steps p.tables e below (T195.setTop (mkF m 88 #[.val (.int p0), .val (.int p1), .val (.int p2), .val (.int p3), .val (.int p4), .val (.int v6), .val (.int v1), .val (.ref b107), .val .null, .unset] [(.int (32 : Int32)), (.int v6)])) t → Steps p.tables e below (T144.setTop (mkF m 79 #[.val (.int p0), .val (.int p1), .val (.int p2), .val (.int p3), .val (.int p4), .val (.int v6), .val (.int v1), .val (.ref b107), .unset, .unset] [(.ref b107)])) t := by
      intro t kt
      show Steps p.tables e below (T144.setTop (mkF m 79 #[.val (.int p0), .val (.int p1), .val (.int p2), .val (.int p3), .val (.int p4), .val (.int v6), .val (.int v1), .val (.ref b107), .unset, .unset] [(.ref b107)])) _
      refine st195 _ ?_
      show Steps p.tables e below (T195.setTop (mkF m 82 #[.val (.int p0), .val (.int p1), .val (.int p2), .val (.int p3), .val (.int p4), .val (.int v6), .val (.int v1), .val (.ref b107), .unset, .unset] [.null])) _
      refine XS.astore X195.here hx rfl (hb hby at_82) rfl rfl (l' := #[.val (.int p0), .val (.int p1), .val (.int p2), .val (.int p3), .val (.int p4), .val (.int v6), .val (.int v1), .val (.ref b107), .val .null, .unset]) rfl ?_
      show Steps p.tables e below (T195.setTop (mkF m 84 #[.val (.int p0), .val (.int p1), .val (.int p2), .val (.int p3), .val (.int p4), .val (.int v6), .val (.int v1), .val (.ref b107), .val .null, .unset] [])) _
      refine XS.iload X195.here hx rfl (hb hby at_84) rfl ?_
      show Steps p.tables e below (T195.setTop (mkF m 86 #[.val (.int p0), .val (.int p1), .val (.int p2), .val (.int p3), .val (.int p4), .val (.int v6), .val (.int v1), .val (.ref b107), .val .null, .unset] [(.int v6)])) _
      refine XS.bipush X195.here hx rfl (hb hby at_86) ?_
      exact kt
    refine own_go hgo201 ?_
    by_cases hc88_28 : v6 = (32 : Int32)
    · obtain ⟨T202, X202, e202, st202⟩ := getS2 X195 hx hZ hown (host := "") (Or.inl (hw _ (List.mem_of_getElem? (i := 8) rfl))) Via.refl e195 F145 (g := (mkF m 91 #[.val (.int p0), .val (.int p1), .val (.int p2), .val (.int p3), .val (.int p4), .val (.int v6), .val (.int v1), .val (.ref b107), .val .null, .unset] [])) rfl (hb hby at_91)
      have hgo203 : ∀ t, Steps p.tables e below (T202.setTop (mkF m 129 #[.val (.int p0), .val (.int p1), .val (.int p2), .val (.int p3), .val (.int p4), .val (.int v6), .val (.int v1), .val (.ref b107), .val .null, .val (.ref u_CharacterCoding_MARC_8)] [(.int (0 : Int32))])) t → Steps p.tables e below (T195.setTop (mkF m 88 #[.val (.int p0), .val (.int p1), .val (.int p2), .val (.int p3), .val (.int p4), .val (.int v6), .val (.int v1), .val (.ref b107), .val .null, .unset] [(.int (32 : Int32)), (.int v6)])) t := by
        intro t kt
        show Steps p.tables e below (T195.setTop (mkF m 88 #[.val (.int p0), .val (.int p1), .val (.int p2), .val (.int p3), .val (.int p4), .val (.int v6), .val (.int v1), .val (.ref b107), .val .null, .unset] [(.int (32 : Int32)), (.int v6)])) _
        refine XS.icmpNo X195.here hx rfl (hb hby at_88) rfl (teq hc88_28).2 ?_
        show Steps p.tables e below (T195.setTop (mkF m 91 #[.val (.int p0), .val (.int p1), .val (.int p2), .val (.int p3), .val (.int p4), .val (.int v6), .val (.int v1), .val (.ref b107), .val .null, .unset] [])) _
        refine st202 _ ?_
        show Steps p.tables e below (T202.setTop (mkF m 94 #[.val (.int p0), .val (.int p1), .val (.int p2), .val (.int p3), .val (.int p4), .val (.int v6), .val (.int v1), .val (.ref b107), .val .null, .unset] [(.ref u_CharacterCoding_MARC_8)])) _
        refine XS.astore X202.here hx rfl (hb hby at_94) rfl rfl (l' := #[.val (.int p0), .val (.int p1), .val (.int p2), .val (.int p3), .val (.int p4), .val (.int v6), .val (.int v1), .val (.ref b107), .val .null, .val (.ref u_CharacterCoding_MARC_8)]) rfl ?_
        show Steps p.tables e below (T202.setTop (mkF m 96 #[.val (.int p0), .val (.int p1), .val (.int p2), .val (.int p3), .val (.int p4), .val (.int v6), .val (.int v1), .val (.ref b107), .val .null, .val (.ref u_CharacterCoding_MARC_8)] [])) _
        refine XS.goto X202.here hx rfl (pc0 := 96) (pc' := 117) rfl (hb hby at_96) (by decide) (by decide) ?_
        show Steps p.tables e below (T202.setTop (mkF m 117 #[.val (.int p0), .val (.int p1), .val (.int p2), .val (.int p3), .val (.int p4), .val (.int v6), .val (.int v1), .val (.ref b107), .val .null, .val (.ref u_CharacterCoding_MARC_8)] [])) _
        refine XS.aload X202.here hx rfl (hb hby at_117) rfl rfl ?_
        show Steps p.tables e below (T202.setTop (mkF m 119 #[.val (.int p0), .val (.int p1), .val (.int p2), .val (.int p3), .val (.int p4), .val (.int v6), .val (.int v1), .val (.ref b107), .val .null, .val (.ref u_CharacterCoding_MARC_8)] [.null])) _
        refine XS.aload X202.here hx rfl (hb hby at_119) rfl rfl ?_
        show Steps p.tables e below (T202.setTop (mkF m 121 #[.val (.int p0), .val (.int p1), .val (.int p2), .val (.int p3), .val (.int p4), .val (.int v6), .val (.int v1), .val (.ref b107), .val .null, .val (.ref u_CharacterCoding_MARC_8)] [(.ref u_CharacterCoding_MARC_8), .null])) _
        refine Jvm.RoadKit.acmp (g := (mkF m 121 #[.val (.int p0), .val (.int p1), .val (.int p2), .val (.int p3), .val (.int p4), .val (.int v6), .val (.int v1), .val (.ref b107), .val .null, .val (.ref u_CharacterCoding_MARC_8)] [(.ref u_CharacterCoding_MARC_8), .null])) X202 hx rfl rfl rfl (pc0 := 121) (pc' := 128) (same := false) rfl (hb hby at_121) rfl (decide_eq_false nofun) (by decide) (by decide) ?_
        show Steps p.tables e below (T202.setTop (mkF m 128 #[.val (.int p0), .val (.int p1), .val (.int p2), .val (.int p3), .val (.int p4), .val (.int v6), .val (.int v1), .val (.ref b107), .val .null, .val (.ref u_CharacterCoding_MARC_8)] [])) _
        refine XS.iconst X202.here hx rfl (hb hby at_128) ?_
        exact kt
      refine own_go hgo203 ?_
      have hz204 : (0 : Int32) = 1 := own_leaf6 (p0 := p0) (p1 := p1) (p2 := p2) (p3 := p3) (p4 := p4) (u_CharacterCoding_MARC_8 := u_CharacterCoding_MARC_8) (u_CharacterCoding_UNICODE := u_CharacterCoding_UNICODE) hv1 hv4 hv5 hv6 hv7 hv8 hv9 hv10 hv11 hv12 hv13 hv14 hv15 hs79_16 hs79_22 hc88_28
      exact own_retZ X202 hx Bd.returns Bd.notSynchronized (hb hby at_129) (by decide) (by decide) (Or.inr hz204) ⟨by rw [hz204], N195⟩
    · have hgo208 : ∀ t, Steps p.tables e below (T195.setTop (mkF m 103 #[.val (.int p0), .val (.int p1), .val (.int p2), .val (.int p3), .val (.int p4), .val (.int v6), .val (.int v1), .val (.ref b107), .val .null, .unset] [(.int (97 : Int32)), (.int v6)])) t → Steps p.tables e below (T195.setTop (mkF m 88 #[.val (.int p0), .val (.int p1), .val (.int p2), .val (.int p3), .val (.int p4), .val (.int v6), .val (.int v1), .val (.ref b107), .val .null, .unset] [(.int (32 : Int32)), (.int v6)])) t := by
        intro t kt
        show Steps p.tables e below (T195.setTop (mkF m 88 #[.val (.int p0), .val (.int p1), .val (.int p2), .val (.int p3), .val (.int p4), .val (.int v6), .val (.int v1), .val (.ref b107), .val .null, .unset] [(.int (32 : Int32)), (.int v6)])) _
        refine XS.icmpYes X195.here hx rfl (pc0 := 88) (pc' := 99) rfl (hb hby at_88) rfl (feq hc88_28).2 (by decide) (by decide) ?_
        show Steps p.tables e below (T195.setTop (mkF m 99 #[.val (.int p0), .val (.int p1), .val (.int p2), .val (.int p3), .val (.int p4), .val (.int v6), .val (.int v1), .val (.ref b107), .val .null, .unset] [])) _
        refine XS.iload X195.here hx rfl (hb hby at_99) rfl ?_
        show Steps p.tables e below (T195.setTop (mkF m 101 #[.val (.int p0), .val (.int p1), .val (.int p2), .val (.int p3), .val (.int p4), .val (.int v6), .val (.int v1), .val (.ref b107), .val .null, .unset] [(.int v6)])) _
        refine XS.bipush X195.here hx rfl (hb hby at_101) ?_
        exact kt
      refine own_go hgo208 ?_
      by_cases hc103_30 : v6 = (97 : Int32)
      · obtain ⟨T209, X209, e209, st209⟩ := getS2 X195 hx hZ hown (host := "") (Or.inl (hw _ (List.mem_of_getElem? (i := 11) rfl))) Via.refl e195 F147 (g := (mkF m 106 #[.val (.int p0), .val (.int p1), .val (.int p2), .val (.int p3), .val (.int p4), .val (.int v6), .val (.int v1), .val (.ref b107), .val .null, .unset] [])) rfl (hb hby at_106)
        have hgo210 : ∀ t, Steps p.tables e below (T209.setTop (mkF m 129 #[.val (.int p0), .val (.int p1), .val (.int p2), .val (.int p3), .val (.int p4), .val (.int v6), .val (.int v1), .val (.ref b107), .val .null, .val (.ref u_CharacterCoding_UNICODE)] [(.int (0 : Int32))])) t → Steps p.tables e below (T195.setTop (mkF m 103 #[.val (.int p0), .val (.int p1), .val (.int p2), .val (.int p3), .val (.int p4), .val (.int v6), .val (.int v1), .val (.ref b107), .val .null, .unset] [(.int (97 : Int32)), (.int v6)])) t := by
          intro t kt
          show Steps p.tables e below (T195.setTop (mkF m 103 #[.val (.int p0), .val (.int p1), .val (.int p2), .val (.int p3), .val (.int p4), .val (.int v6), .val (.int v1), .val (.ref b107), .val .null, .unset] [(.int (97 : Int32)), (.int v6)])) _
          refine XS.icmpNo X195.here hx rfl (hb hby at_103) rfl (teq hc103_30).2 ?_
          show Steps p.tables e below (T195.setTop (mkF m 106 #[.val (.int p0), .val (.int p1), .val (.int p2), .val (.int p3), .val (.int p4), .val (.int v6), .val (.int v1), .val (.ref b107), .val .null, .unset] [])) _
          refine st209 _ ?_
          show Steps p.tables e below (T209.setTop (mkF m 109 #[.val (.int p0), .val (.int p1), .val (.int p2), .val (.int p3), .val (.int p4), .val (.int v6), .val (.int v1), .val (.ref b107), .val .null, .unset] [(.ref u_CharacterCoding_UNICODE)])) _
          refine XS.astore X209.here hx rfl (hb hby at_109) rfl rfl (l' := #[.val (.int p0), .val (.int p1), .val (.int p2), .val (.int p3), .val (.int p4), .val (.int v6), .val (.int v1), .val (.ref b107), .val .null, .val (.ref u_CharacterCoding_UNICODE)]) rfl ?_
          show Steps p.tables e below (T209.setTop (mkF m 111 #[.val (.int p0), .val (.int p1), .val (.int p2), .val (.int p3), .val (.int p4), .val (.int v6), .val (.int v1), .val (.ref b107), .val .null, .val (.ref u_CharacterCoding_UNICODE)] [])) _
          refine XS.goto X209.here hx rfl (pc0 := 111) (pc' := 117) rfl (hb hby at_111) (by decide) (by decide) ?_
          show Steps p.tables e below (T209.setTop (mkF m 117 #[.val (.int p0), .val (.int p1), .val (.int p2), .val (.int p3), .val (.int p4), .val (.int v6), .val (.int v1), .val (.ref b107), .val .null, .val (.ref u_CharacterCoding_UNICODE)] [])) _
          refine XS.aload X209.here hx rfl (hb hby at_117) rfl rfl ?_
          show Steps p.tables e below (T209.setTop (mkF m 119 #[.val (.int p0), .val (.int p1), .val (.int p2), .val (.int p3), .val (.int p4), .val (.int v6), .val (.int v1), .val (.ref b107), .val .null, .val (.ref u_CharacterCoding_UNICODE)] [.null])) _
          refine XS.aload X209.here hx rfl (hb hby at_119) rfl rfl ?_
          show Steps p.tables e below (T209.setTop (mkF m 121 #[.val (.int p0), .val (.int p1), .val (.int p2), .val (.int p3), .val (.int p4), .val (.int v6), .val (.int v1), .val (.ref b107), .val .null, .val (.ref u_CharacterCoding_UNICODE)] [(.ref u_CharacterCoding_UNICODE), .null])) _
          refine Jvm.RoadKit.acmp (g := (mkF m 121 #[.val (.int p0), .val (.int p1), .val (.int p2), .val (.int p3), .val (.int p4), .val (.int v6), .val (.int v1), .val (.ref b107), .val .null, .val (.ref u_CharacterCoding_UNICODE)] [(.ref u_CharacterCoding_UNICODE), .null])) X209 hx rfl rfl rfl (pc0 := 121) (pc' := 128) (same := false) rfl (hb hby at_121) rfl (decide_eq_false nofun) (by decide) (by decide) ?_
          show Steps p.tables e below (T209.setTop (mkF m 128 #[.val (.int p0), .val (.int p1), .val (.int p2), .val (.int p3), .val (.int p4), .val (.int v6), .val (.int v1), .val (.ref b107), .val .null, .val (.ref u_CharacterCoding_UNICODE)] [])) _
          refine XS.iconst X209.here hx rfl (hb hby at_128) ?_
          exact kt
        refine own_go hgo210 ?_
        have hz211 : (0 : Int32) = 1 := own_leaf7 (p0 := p0) (p1 := p1) (p2 := p2) (p3 := p3) (p4 := p4) (u_CharacterCoding_MARC_8 := u_CharacterCoding_MARC_8) (u_CharacterCoding_UNICODE := u_CharacterCoding_UNICODE) hv1 hv4 hv5 hv6 hv7 hv8 hv9 hv10 hv11 hv12 hv13 hv14 hv15 hs79_16 hs79_22 hc88_28 hc103_30
        exact own_retZ X209 hx Bd.returns Bd.notSynchronized (hb hby at_129) (by decide) (by decide) (Or.inr hz211) ⟨by rw [hz211], N195⟩
      · have hgo212 : ∀ t, Steps p.tables e below (T195.setTop (mkF m 129 #[.val (.int p0), .val (.int p1), .val (.int p2), .val (.int p3), .val (.int p4), .val (.int v6), .val (.int v1), .val (.ref b107), .val .null, .val .null] [(.int (1 : Int32))])) t → Steps p.tables e below (T195.setTop (mkF m 103 #[.val (.int p0), .val (.int p1), .val (.int p2), .val (.int p3), .val (.int p4), .val (.int v6), .val (.int v1), .val (.ref b107), .val .null, .unset] [(.int (97 : Int32)), (.int v6)])) t := by
          intro t kt
          show Steps p.tables e below (T195.setTop (mkF m 103 #[.val (.int p0), .val (.int p1), .val (.int p2), .val (.int p3), .val (.int p4), .val (.int v6), .val (.int v1), .val (.ref b107), .val .null, .unset] [(.int (97 : Int32)), (.int v6)])) _
          refine XS.icmpYes X195.here hx rfl (pc0 := 103) (pc' := 114) rfl (hb hby at_103) rfl (feq hc103_30).2 (by decide) (by decide) ?_
          show Steps p.tables e below (T195.setTop (mkF m 114 #[.val (.int p0), .val (.int p1), .val (.int p2), .val (.int p3), .val (.int p4), .val (.int v6), .val (.int v1), .val (.ref b107), .val .null, .unset] [])) _
          refine XS.aconstNull X195.here hx rfl (hb hby at_114) ?_
          show Steps p.tables e below (T195.setTop (mkF m 115 #[.val (.int p0), .val (.int p1), .val (.int p2), .val (.int p3), .val (.int p4), .val (.int v6), .val (.int v1), .val (.ref b107), .val .null, .unset] [.null])) _
          refine XS.astore X195.here hx rfl (hb hby at_115) rfl rfl (l' := #[.val (.int p0), .val (.int p1), .val (.int p2), .val (.int p3), .val (.int p4), .val (.int v6), .val (.int v1), .val (.ref b107), .val .null, .val .null]) rfl ?_
          show Steps p.tables e below (T195.setTop (mkF m 117 #[.val (.int p0), .val (.int p1), .val (.int p2), .val (.int p3), .val (.int p4), .val (.int v6), .val (.int v1), .val (.ref b107), .val .null, .val .null] [])) _
          refine XS.aload X195.here hx rfl (hb hby at_117) rfl rfl ?_
          show Steps p.tables e below (T195.setTop (mkF m 119 #[.val (.int p0), .val (.int p1), .val (.int p2), .val (.int p3), .val (.int p4), .val (.int v6), .val (.int v1), .val (.ref b107), .val .null, .val .null] [.null])) _
          refine XS.aload X195.here hx rfl (hb hby at_119) rfl rfl ?_
          show Steps p.tables e below (T195.setTop (mkF m 121 #[.val (.int p0), .val (.int p1), .val (.int p2), .val (.int p3), .val (.int p4), .val (.int v6), .val (.int v1), .val (.ref b107), .val .null, .val .null] [.null, .null])) _
          refine Jvm.RoadKit.acmp (g := (mkF m 121 #[.val (.int p0), .val (.int p1), .val (.int p2), .val (.int p3), .val (.int p4), .val (.int v6), .val (.int v1), .val (.ref b107), .val .null, .val .null] [.null, .null])) X195 hx rfl rfl rfl (pc0 := 121) (pc' := 124) (same := true) rfl (hb hby at_121) rfl (decide_eq_true rfl) (by decide) (by decide) ?_
          show Steps p.tables e below (T195.setTop (mkF m 124 #[.val (.int p0), .val (.int p1), .val (.int p2), .val (.int p3), .val (.int p4), .val (.int v6), .val (.int v1), .val (.ref b107), .val .null, .val .null] [])) _
          refine XS.iconst X195.here hx rfl (hb hby at_124) ?_
          show Steps p.tables e below (T195.setTop (mkF m 125 #[.val (.int p0), .val (.int p1), .val (.int p2), .val (.int p3), .val (.int p4), .val (.int v6), .val (.int v1), .val (.ref b107), .val .null, .val .null] [(.int (1 : Int32))])) _
          refine XS.goto X195.here hx rfl (pc0 := 125) (pc' := 129) rfl (hb hby at_125) (by decide) (by decide) ?_
          exact kt
        refine own_go hgo212 ?_
        exact own_retZ X195 hx Bd.returns Bd.notSynchronized (hb hby at_129) (by decide) (by decide) (Or.inr (rfl : (1 : Int32) = 1)) ⟨by rw [(rfl : (1 : Int32) = 1)], N195⟩
set_option maxRecDepth 65536 in
set_option maxHeartbeats 40000000 in
theorem comes_1 {Post : Tables → Env → Array Value → State → Outcome → State → Prop} (hpost : ∀ tb e args s v u, (limb_1_1.after args s (.returned v) u = true ∧ limb_1_2.after args s (.returned v) u = true ∧ True) → FrameEnd s (.returned v) u (Jvm.fieldLocs frame_1_writes args s ++ Jvm.arrayLocs frame_1_arrays args s ++ Jvm.staticLocs frame_1_statics s) 16 128 → Post tb e args s (.returned v) u) :
    ArmFor flags0 classFile x code maxLocals ret World_1 tables_1 room_1 Calls_1 rest_1 Pre_1 Post := by
  intro l hfl _ _ p e ha hc hk s m args below hf hA hF happ hP
  obtain ⟨hcalls, hrest, hpre⟩ := hP
  obtain ⟨-, -, -, hnamed, -, -, -, hat⟩ := (Spec.applies_iff hf).mp happ
  obtain ⟨hg, hn⟩ := and_e (Cond.before_iff.mp (show (Jvm.Cond.and given_1 narrow_1).before args s = true from hpre))
  obtain ⟨gg1, gg2⟩ := and_e hg
  obtain ⟨gg3, gg4⟩ := and_e gg2
  obtain ⟨gg5, gg6⟩ := and_e gg4
  obtain ⟨gg7, gg8⟩ := and_e gg6
  obtain ⟨gg9, gg10⟩ := and_e gg8
  obtain ⟨gg11, gg12⟩ := and_e hn
  obtain ⟨w0, w1, w2, w3, w4, rfl⟩ : ∃ w0 w1 w2 w3 w4 : Value, args = #[w0, w1, w2, w3, w4] := by
    have hs : args.size = 5 := by simpa [Cond.value, given_1] using gg1
    obtain ⟨L⟩ := args
    match L, hs with
    | [w0, w1, w2, w3, w4], _ => exact ⟨w0, w1, w2, w3, w4, rfl⟩
  have hw := fun d (hd : d ∈ tables_1) => atoms_spec (ws := Jvm.Cond.code x code maxLocals ret :: tables_1) hat d (List.mem_cons_of_mem _ hd)
  have hfit : Fit s := fun {y c} hc i hi => by
    obtain ⟨ha, rfl⟩ := Array.getElem?_eq_some_iff.mp hc
    have q := List.all_eq_true.mp ((Array.all_eq_true_iff_forall_mem.mp hF) _ (Array.getElem_mem ha)) i (List.mem_range.mpr hi)
    simpa [Array.getElem?_eq_getElem hi] using q
  obtain ⟨i0, ei0⟩ := is_v gg3
  obtain rfl : w0 = (.int i0) := Option.some.inj ei0
  obtain ⟨i1, ei1⟩ := is_v gg5
  obtain rfl : w1 = (.int i1) := Option.some.inj ei1
  obtain ⟨i2, ei2⟩ := is_v gg7
  obtain rfl : w2 = (.int i2) := Option.some.inj ei2
  obtain ⟨i3, ei3⟩ := is_v gg9
  obtain rfl : w3 = (.int i3) := Option.some.inj ei3
  obtain ⟨i4, ei4⟩ := is_v gg10
  obtain rfl : w4 = (.int i4) := Option.some.inj ei4
  obtain ⟨u_CharacterCoding_MARC_8, eu_CharacterCoding_MARC_8⟩ := exa_v gg11
  obtain ⟨u_CharacterCoding_UNICODE, eu_CharacterCoding_UNICODE⟩ := exa_v gg12
  obtain ⟨n, o, h1, h2, h3, _, L, rfl, ⟨rfl, N⟩, hq⟩ := rm0 l s _ hw tables_1 i0 i1 i2 i3 i4 u_CharacterCoding_MARC_8 u_CharacterCoding_UNICODE s.heap s.heap.size (Nat.le_refl _) (Sta.start eu_CharacterCoding_MARC_8 (Or.inr ⟨(hw _ (List.mem_of_getElem? (i := 4) rfl)), (hw _ (List.mem_of_getElem? (i := 7) rfl))⟩)) (Exa.start eu_CharacterCoding_MARC_8 gg11) (Sta.start eu_CharacterCoding_UNICODE (Or.inr ⟨(hw _ (List.mem_of_getElem? (i := 4) rfl)), (hw _ (List.mem_of_getElem? (i := 10) rfl))⟩)) (Exa.start eu_CharacterCoding_UNICODE gg12) p e ha hc hk s m _ below hf ((Spec.applies_iff_loose hf).mp happ).1 ⟨rfl, State.Warmed39.refl s, rfl⟩ trivial
  refine ⟨n, _, h1, h2, h3, hpost _ _ _ _ _ _ ⟨Cond.after_iff.mpr rfl, Cond.after_iff.mpr (eq_i res_at (Term.int_eval (1)) rfl), trivial⟩ ⟨hq.1, hq.2.1, (hq.2.2.sift fun y hy => Or.inr (N y hy)).mono (by decide) (by decide)⟩⟩
theorem main_1_1 : Claimed_1_1 := comes_1 fun _ _ _ _ _ _ h hF => ⟨h.1, hF⟩
theorem main_1_2 : Claimed_1_2 := comes_1 fun _ _ _ _ _ _ h hF => ⟨h.2.1, hF⟩
end Jvm.Pilot.@@N@@
namespace Jvm.Pilot.@@N@@
open Jvm Jvm.ClassFile Sem Op Lib Jvm.Free Jvm.Stand Jvm.Pilot.@@N@@.Jvm.D
/-! MADE BY PROGRAM (witnessworld.py) out of the Statement's table words and the real class files: 12 classes; the members and pool entries that the words name. The judged class is class 1, her method 1. -/
namespace start1
open Jvm.ClassFile
def u (s : String) : CpInfo := .utf8 (stringToUtf16 s)
/-- a pool by its gaps: so many unusable entries, then the entry; so many at the end -/
def gap : Nat → List CpInfo → List CpInfo
  | 0, r => r
  | n + 1, r => .unusable :: gap n r
def poolList (es : List (Nat × CpInfo)) (last : Nat) : List CpInfo := es.foldr (fun e r => gap e.1 (e.2 :: r)) (gap last [])
def pool (es : List (Nat × CpInfo)) (last : Nat) : Array CpInfo := ⟨poolList es last⟩
def fileOf (pool : Array CpInfo) (this : Nat) (attrs : Array Attribute := #[]) (ms : Array MethodInfo := #[]) (fl : Nat := 33) (sup : Nat := 0) (ifs : Array Nat := #[]) (fds : Array FieldInfo := #[]) : ClassFile where
  minorVersion := 0
  majorVersion := 65
  constantPool := pool
  accessFlags := fl
  thisClass := this
  superClass := sup
  interfaces := ifs
  fields := fds
  methods := ms
  attributes := attrs
def plain (name : String) (sup : Option ClassId) : Class where
  name := name
  kind := .ordinary
  loader := none
  accessFlags := 33
  super := sup
  interfaces := #[]
  cf := none
  fields := #[]
  methods := #[]
  instanceTypes := #[]
  staticTypes := #[]
  resolved := #[]
  callSites := []
  init := .initialized
  statics := none
  mirror := none

def pool0 : Array CpInfo := pool [(5, u "<init>"), (0, u "()V"), (1, .class_ 10), (1, u "java/lang/Object")] 113

def k0m0 : Method := { name := "<init>", desc := "()V", sig := { parameters := [], returnType := none }, accessFlags := 1, code := none }
/-- java/lang/Object -/
def k0 : Class := { plain "java/lang/Object" none with
  accessFlags := 33
  interfaces := #[]
  cf := some (fileOf pool0 8 #[] #[{ accessFlags := 1, nameIndex := 5, descriptorIndex := 6, attributes := #[] }] 33 0 #[] #[])
  fields := #[]
  methods := #[k0m0]
  instanceTypes := #[]
  staticTypes := #[]
  resolved := Array.replicate 124 none
  statics := none }

def pool1 : Array CpInfo := pool [(2, .class_ 4), (1, u "java/lang/Object"), (0, u "<init>"), (0, u "()V"), (0, .integer 2147483647), (0, .methodref 9 10), (0, .class_ 11), (0, .nameAndType 12 13), (0, u "org/tagwright/core/CharacterCoding"), (0, u "of"), (0, u "([B)Lorg/tagwright/core/CharacterCoding;"), (0, .fieldref 9 15), (0, .nameAndType 16 17), (0, u "MARC_8"), (0, u "Lorg/tagwright/core/CharacterCoding;"), (0, .fieldref 9 19), (0, .nameAndType 20 17), (0, u "UNICODE"), (0, .class_ 22), (0, u "org/tagwright/core/CharacterCodingOfPinLaw"), (2, u "law"), (0, u "(IIIII)Z")] 5

def k1m0 : Method := { name := "<init>", desc := "()V", sig := { parameters := [], returnType := none }, accessFlags := 1, code := none }
def k1c1 : Code := { maxStack := 4, maxLocals := 10, code := code, exceptionTable := #[], attributes := #[] }
def k1m1 : Method := { name := "law", desc := "(IIIII)Z", sig := { parameters := [.int, .int, .int, .int, .int], returnType := some .boolean }, accessFlags := 9, code := some k1c1 }
/-- org/tagwright/core/CharacterCodingOfPinLaw -/
def k1 : Class := { plain "org/tagwright/core/CharacterCodingOfPinLaw" (some 0) with
  accessFlags := 49
  interfaces := #[]
  cf := some (fileOf pool1 21 #[] #[{ accessFlags := 1, nameIndex := 5, descriptorIndex := 6, attributes := #[] }, { accessFlags := 9, nameIndex := 25, descriptorIndex := 26, attributes := #[] }] 49 2 #[] #[])
  fields := #[]
  methods := #[k1m0, k1m1]
  instanceTypes := #[]
  staticTypes := #[]
  resolved := Array.replicate 32 none
  statics := none }

def pool2 : Array CpInfo := pool [(1, .class_ 2), (0, u "java/lang/constant/Constable"), (0, .class_ 4), (0, u "java/lang/Object")] 6

/-- java/lang/constant/Constable -/
def k2 : Class := { plain "java/lang/constant/Constable" (some 0) with
  accessFlags := 1537
  interfaces := #[]
  cf := some (fileOf pool2 1 #[] #[] 1537 3 #[] #[])
  fields := #[]
  methods := #[]
  instanceTypes := #[]
  staticTypes := #[]
  resolved := Array.replicate 11 none
  statics := none }

def pool3 : Array CpInfo := pool [(1, .class_ 2), (0, u "java/lang/Comparable"), (0, .class_ 4), (0, u "java/lang/Object")] 7

/-- java/lang/Comparable -/
def k3 : Class := { plain "java/lang/Comparable" (some 0) with
  accessFlags := 1537
  interfaces := #[]
  cf := some (fileOf pool3 1 #[] #[] 1537 3 #[] #[])
  fields := #[]
  methods := #[]
  instanceTypes := #[]
  staticTypes := #[]
  resolved := Array.replicate 12 none
  statics := none }

def pool4 : Array CpInfo := pool [(1, .class_ 2), (0, u "java/io/Serializable"), (0, .class_ 4), (0, u "java/lang/Object")] 2

/-- java/io/Serializable -/
def k4 : Class := { plain "java/io/Serializable" (some 0) with
  accessFlags := 1537
  interfaces := #[]
  cf := some (fileOf pool4 1 #[] #[] 1537 3 #[] #[])
  fields := #[]
  methods := #[]
  instanceTypes := #[]
  staticTypes := #[]
  resolved := Array.replicate 7 none
  statics := none }

def pool5 : Array CpInfo := pool [(2, .class_ 4), (1, u "java/lang/Enum"), (0, u "name"), (0, u "Ljava/lang/String;"), (2, u "ordinal"), (0, u "I"), (1, .class_ 14), (1, u "java/lang/Object"), (4, u "hash"), (86, .class_ 108), (1, u "java/lang/Enum$EnumDesc"), (2, .class_ 112), (0, u "java/lang/constant/Constable"), (0, .class_ 114), (0, u "java/lang/Comparable"), (0, .class_ 116), (0, u "java/io/Serializable")] 87

/-- java/lang/Enum -/
def k5 : Class := { plain "java/lang/Enum" (some 0) with
  accessFlags := 1057
  interfaces := #[2, 3, 4]
  cf := some (fileOf pool5 2 #[.nestMembers #[106]] #[] 1057 12 #[111, 113, 115] #[{ accessFlags := 18, nameIndex := 5, descriptorIndex := 6, attributes := #[] }, { accessFlags := 18, nameIndex := 9, descriptorIndex := 10, attributes := #[] }, { accessFlags := 2, nameIndex := 19, descriptorIndex := 10, attributes := #[] }])
  fields := #[{ name := "name", type := (.object "java/lang/String"), accessFlags := 18, slot := 0, constantValue := 0 }, { name := "ordinal", type := .int, accessFlags := 18, slot := 1, constantValue := 0 }, { name := "hash", type := .int, accessFlags := 2, slot := 2, constantValue := 0 }]
  methods := #[]
  instanceTypes := #[(.object "java/lang/String"), .int, .int]
  staticTypes := #[]
  resolved := Array.replicate 204 none
  statics := none }

def pool6 : Array CpInfo := pool [(1, .class_ 2), (0, u "org/tagwright/core/CharacterCoding"), (0, .fieldref 1 4), (0, .nameAndType 5 6), (0, u "MARC_8"), (0, u "Lorg/tagwright/core/CharacterCoding;"), (0, .fieldref 1 8), (0, .nameAndType 9 6), (0, u "UNICODE"), (2, u "$VALUES"), (0, u "[Lorg/tagwright/core/CharacterCoding;"), (6, .class_ 22), (1, u "java/lang/Enum"), (13, u "LEADER_POSITION"), (0, u "I"), (9, u "of"), (0, u "([B)Lorg/tagwright/core/CharacterCoding;")] 5

def k6c0 : Code := { maxStack := 2, maxLocals := 1, code := prog_28_method_4_code, exceptionTable := #[], attributes := #[] }
def k6m0 : Method := { name := "of", desc := "([B)Lorg/tagwright/core/CharacterCoding;", sig := { parameters := [(.array .byte)], returnType := some (.object "org/tagwright/core/CharacterCoding") }, accessFlags := 9, code := some k6c0 }
/-- org/tagwright/core/CharacterCoding -/
def k6 : Class := { plain "org/tagwright/core/CharacterCoding" (some 5) with
  accessFlags := 16433
  interfaces := #[]
  cf := some (fileOf pool6 1 #[] #[{ accessFlags := 9, nameIndex := 47, descriptorIndex := 48, attributes := #[] }] 16433 20 #[] #[{ accessFlags := 16409, nameIndex := 5, descriptorIndex := 6, attributes := #[] }, { accessFlags := 16409, nameIndex := 9, descriptorIndex := 6, attributes := #[] }, { accessFlags := 25, nameIndex := 36, descriptorIndex := 37, attributes := #[] }, { accessFlags := 4122, nameIndex := 12, descriptorIndex := 13, attributes := #[] }])
  fields := #[{ name := "MARC_8", type := (.object "org/tagwright/core/CharacterCoding"), accessFlags := 16409, slot := 0, constantValue := 0 }, { name := "UNICODE", type := (.object "org/tagwright/core/CharacterCoding"), accessFlags := 16409, slot := 1, constantValue := 0 }, { name := "LEADER_POSITION", type := .int, accessFlags := 25, slot := 2, constantValue := 0 }, { name := "$VALUES", type := (.array (.object "org/tagwright/core/CharacterCoding")), accessFlags := 4122, slot := 3, constantValue := 0 }]
  methods := #[k6m0]
  instanceTypes := #[(.object "java/lang/String"), .int, .int]
  staticTypes := #[(.object "org/tagwright/core/CharacterCoding"), (.object "org/tagwright/core/CharacterCoding"), .int, (.array (.object "org/tagwright/core/CharacterCoding"))]
  resolved := Array.replicate 54 none
  statics := some 0 }

def pool7 : Array CpInfo := pool [(1, u "java/lang/Cloneable"), (0, .class_ 1), (0, u "java/lang/Object"), (0, .class_ 3)] 3

/-- java/lang/Cloneable -/
def k7 : Class := { plain "java/lang/Cloneable" (some 0) with
  accessFlags := 1537
  interfaces := #[]
  cf := some (fileOf pool7 2 #[] #[] 1537 4 #[] #[])
  fields := #[]
  methods := #[]
  instanceTypes := #[]
  staticTypes := #[]
  resolved := Array.replicate 8 none
  statics := none }

/-- the primitive byte -/
def k8 : Class := { plain "byte" none with kind := .primitive 'B', accessFlags := 0x411 }
/-- [B -/
def k9 : Class := { plain "[B" (some 0) with kind := .array 8 .byte, interfaces := #[7, 4], accessFlags := 1041 }

/-- the primitive int -/
def k10 : Class := { plain "int" none with kind := .primitive 'I', accessFlags := 0x411 }
/-- [I -/
def k11 : Class := { plain "[I" (some 0) with kind := .array 10 .int, interfaces := #[7, 4], accessFlags := 1041 }

def heap : Heap := #[{ cls := 6, slots := #[.ref 1, .ref 2, .int 0, .null], vm := .statics 6 },
  { cls := 6, slots := #[.null, .int 0, .int 0], vm := .none },
  { cls := 6, slots := #[.null, .int 1, .int 0], vm := .none }]
def classes : Array Class := #[k0, k1, k2, k3, k4, k5, k6, k7, k8, k9, k10, k11]
def interned : List (Array UInt16 × Addr) := []
def slotsUsed : Nat := 10
def theMethod : MethodId := ⟨1, 1⟩
def args0 : Array Value := #[.int 5, .int 5, .int 5, .int 5, .int 5]
def aboutOver (below : List Frame) : State where
  vm := { classes := classes, interned := interned.toArray }
  heap := heap
  slotsUsed := slotsUsed
  threads := #[{ frames := .invoking theMethod args0 :: below }]
def below0 : List Frame := [.native { method := ⟨0, 0⟩, args := #[] }]
def about1 : State := aboutOver below0
def p0 : Program := .bare "" "" ""
def e0 : Env := launch0.env 0 0 0
theorem w_frames : about1.frames = Frame.invoking theMethod args0 :: below0 := rfl
set_option maxRecDepth 65536 in
theorem w_args : argsFit about1.vm theMethod args0 = true := by decide +kernel
set_option maxRecDepth 65536 in
theorem w_heap : heapFits about1 = true := by decide +kernel
set_option maxRecDepth 65536 in
theorem w_runnable : about1.curStatus? = some .runnable := by decide +kernel
set_option maxRecDepth 65536 in
theorem w_alone : about1.alone = true := by decide +kernel
set_option maxRecDepth 65536 in
theorem w_named : about1.methodNamed? x = some theMethod := by decide +kernel
set_option maxRecDepth 65536 in
theorem w_hears : about1.hears theMethod below0 = true := by decide +kernel
set_option maxRecDepth 65536 in
theorem w_ripe : about1.ripe theMethod args0 below0 = true := by decide +kernel
theorem w_running : about1.status = .running := rfl
set_option maxRecDepth 65536 in
theorem w_room : about1.hasRoom e0.platform room_1 = true :=
  launch0.hasRoom_least _ room_1 (by decide +kernel) (by decide +kernel) (by decide +kernel) (by decide +kernel) (by decide +kernel) (by decide +kernel)
theorem allAtoms_all (ts : List Jvm.Cond) (a : Array Jvm.Value) (st : Jvm.State) : (allAtoms ts).before a st = ts.all (fun c => c.before a st) := by
  induction ts with
  | nil => rfl
  | cons c t ih =>
    show (Jvm.Cond.and c (allAtoms t)).before a st = _
    rw [Jvm.Cond.before_and, ih, List.all_cons]
def words1 : List Jvm.Cond := Jvm.Cond.code x code maxLocals ret :: tables_1
/-- a 'code' word, met by the world's own term for the bytes: nothing is compared byte by byte -/
theorem code_word {y : MethodName} {bytes : ByteArray} {mx : Nat} {rt : Option FieldType} {a : Array Value} {s : State} {m : MethodId} {meth : Method} {c : Code} (h1 : s.methodNamed? y = some m) (h2 : s.vm.method? m = some meth) (h3 : meth.code = some c) (h4 : c.code = bytes)
    (h5 : (c.maxLocals == mx && c.exceptionTable.isEmpty && decide (c.maxStack ≤ mostOperands) && decide (meth.sig.returnType = rt) && !meth.locks && decide (parseMethodDescriptor y.desc = some meth.sig)) = true) : (Jvm.Cond.code y bytes mx rt).before a s = true := by
  simp only [Bool.and_eq_true, beq_iff_eq, Bool.not_eq_true', decide_eq_true_eq] at h5
  obtain ⟨⟨⟨⟨⟨g1, g2⟩, g3⟩, g4⟩, g5⟩, g6⟩ := h5
  simp [Cond.before, Cond.holds, Cond.value, h1, h2, h3, h4, g1, g2, g3, g4, g5, g6]
def isCode : Jvm.Cond → Bool
  | .code _ _ _ _ => true
  | _ => false
theorem all_split {L : List Jvm.Cond} {P : Jvm.Cond → Bool} (h1 : L.all (fun c => isCode c || P c) = true) (h2 : ∀ c ∈ L.filter isCode, P c = true) : L.all P = true := by
  refine List.all_eq_true.mpr fun c hc => ?_
  have h := List.all_eq_true.mp h1 c hc
  rcases Bool.eq_false_or_eq_true (isCode c) with hi | hi
  · exact h2 c (List.mem_filter.mpr ⟨hc, hi⟩)
  · simpa [hi] using h
set_option maxRecDepth 65536 in
theorem w_c0 : (Jvm.Cond.code x code maxLocals ret).before args0 about1 = true := code_word (m := ⟨1, 1⟩) (meth := k1m1) (c := k1c1) (by decide +kernel) rfl rfl rfl (by decide +kernel)
set_option maxRecDepth 65536 in
theorem w_c1 : (Jvm.Cond.code ({ cls := "org/tagwright/core/CharacterCoding", name := "of", desc := "([B)Lorg/tagwright/core/CharacterCoding;" } : Jvm.MethodName) prog_28_method_4_code (1 : Nat) (Option.some (Jvm.ClassFile.FieldType.object "org/tagwright/core/CharacterCoding"))).before args0 about1 = true := code_word (m := ⟨6, 0⟩) (meth := k6m0) (c := k6c0) (by decide +kernel) rfl rfl rfl (by decide +kernel)
def codes1 : List Jvm.Cond := [Jvm.Cond.code x code maxLocals ret, Jvm.Cond.code ({ cls := "org/tagwright/core/CharacterCoding", name := "of", desc := "([B)Lorg/tagwright/core/CharacterCoding;" } : Jvm.MethodName) prog_28_method_4_code (1 : Nat) (Option.some (Jvm.ClassFile.FieldType.object "org/tagwright/core/CharacterCoding"))]
set_option maxRecDepth 65536 in
theorem codes_eq : words1.filter isCode = codes1 := rfl
theorem w_codes : ∀ c ∈ words1.filter isCode, c.before args0 about1 = true := by
  rw [codes_eq]
  intro c hc
  simp only [codes1, List.mem_cons, List.not_mem_nil, or_false] at hc
  rcases hc with rfl | rfl
  · exact w_c0
  · exact w_c1
set_option maxRecDepth 65536 in
theorem w_t1 : words1.all (fun c => isCode c || c.before args0 about1) = true := by decide +kernel
theorem w_tables : (allAtoms (Jvm.Cond.code x code maxLocals ret :: tables_1)).before args0 about1 = true := by
  rw [allAtoms_all]
  show words1.all (fun c => c.before args0 about1) = true
  refine all_split ?_ w_codes
  rw [w_t1]
set_option maxRecDepth 65536 in
theorem w_case : (Jvm.Cond.and given_1 narrow_1).before args0 about1 = true := by decide +kernel
theorem w_applies : (headSpec (Jvm.Cond.code x code maxLocals ret :: tables_1) room_1).applies x e0.platform about1 = true :=
  (Spec.applies_iff w_frames).mpr ⟨w_running, w_runnable, w_alone, w_named, w_hears, w_ripe, w_room, w_tables⟩
theorem atStart : AtStart classFile x code maxLocals ret World_1 tables_1 room_1 Calls_1 rest_1 Pre_1 launch0 p0 e0 about1 theMethod args0 below0 :=
  ⟨lists_1, trivial, launch0.admits_env _ _ _, launch0.least_env, fairChoices_fair.cas, fairChoices_fair.clock, w_frames, w_args, w_heap, w_applies, trivial, trivial, w_case⟩
end start1
theorem witness_1 : WitnessClaimed_1 := ⟨start1.p0, start1.e0, start1.about1, start1.theMethod, start1.args0, start1.below0, start1.atStart⟩
end Jvm.Pilot.@@N@@
