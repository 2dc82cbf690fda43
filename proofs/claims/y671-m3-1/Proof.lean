import JvmDerived
import JvmDerived.Pilot.@@N@@Statement
import JvmDerived.Pilot.@@N@@Code
set_option linter.unusedVariables false
set_option linter.unusedSimpArgs false
namespace Jvm.Pilot.@@N@@
open Jvm Jvm.ClassFile Sem Op Lib Jvm.Free Jvm.Stand Jvm.LawKit Jvm.RoadKit Bundle Jvm.Pilot.@@N@@.Jvm.D
section OwnKit
variable {p : Program} {l : Launch} {e : Env} {R : Room} {s : State} {m : MethodId} {args : Array Value} {below : List Frame} {meth : Method} {c : Code} {T : State} {locs : List Loc} {cells slots : Nat}
/-- from the state A the body runs to its end and leaves what Q says -/
def own_Go (p : Program) (e : Env) (below : List Frame) (s : State) (Q : Option Value → Heap → List Loc → Prop) (kc ks : Nat) (A : State) : Prop :=
  ∃ s₂ o, Steps p.tables e below A s₂ ∧ s₂.status = .running ∧ Ended s₂ below o ∧ ∃ v L, o = .returned v ∧ Q v s₂.heap L ∧ FrameEnd s o s₂ L kc ks
theorem own_go {Q : Option Value → Heap → List Loc → Prop} {kc ks : Nat} {A B : State} (h : ∀ t, Steps p.tables e below B t → Steps p.tables e below A t) (k : own_Go p e below s Q kc ks B) : own_Go p e below s Q kc ks A := by
  obtain ⟨s₂, o, h1, h2⟩ := k
  exact ⟨s₂, o, h _ h1, h2⟩
/-- from the state A the body runs to the frame g', the heap as it was -/
def own_Arm (p : Program) (l : Launch) (e : Env) (R : Room) (s : State) (m : MethodId) (args : Array Value) (below : List Frame) (meth : Method) (c : Code) (cells slots n0 : Nat) (h : Heap) (g' : JFrame) (A : State) : Prop :=
  ∃ (T' : State) (locs' : List Loc), Stand p l e R s m args below meth c T' locs' cells slots ∧ Fr n0 locs' ∧ T'.heap = h ∧ ∀ t, Steps p.tables e below (T'.setTop g') t → Steps p.tables e below A t
theorem own_arm {n0 : Nat} {h : Heap} {g' : JFrame} {A B : State} (k1 : ∀ t, Steps p.tables e below B t → Steps p.tables e below A t) (k : own_Arm p l e R s m args below meth c cells slots n0 h g' B) : own_Arm p l e R s m args below meth c cells slots n0 h g' A := by
  obtain ⟨T', locs', h1, h2, h3, h4⟩ := k
  exact ⟨T', locs', h1, h2, h3, fun t kt => k1 t (h4 t kt)⟩
theorem own_armEnd {n0 : Nat} {h : Heap} {g g' : JFrame} (X : Stand p l e R s m args below meth c T locs cells slots) (N : Fr n0 locs) (eT : T.heap = h) (q : g' = g) : own_Arm p l e R s m args below meth c cells slots n0 h g' (T.setTop g) :=
  ⟨T, locs, X, N, eT, fun t kt => q ▸ kt⟩
theorem own_mrg {n0 : Nat} {h : Heap} {g g' : JFrame} (X : Stand p l e R s m args below meth c T locs cells slots) (k : own_Arm p l e R s m args below meth c cells slots n0 h g' (T.setTop g)) :
    ∃ (T' : State) (locs' : List Loc), Stand p l e R s m args below meth c T' locs' cells slots ∧ Fr n0 locs' ∧ T'.heap = h ∧ ∀ t, Steps p.tables e below (T'.setTop g') t → Steps p.tables e below (T.setTop g) t := k
theorem own_leave {Q : Option Value → Heap → List Loc → Prop} {kc ks : Nat} {A : State} {v : Option Value} (X : Stand p l e R s m args below meth c T locs cells slots) (hv : meth.sig.returnType = none → v = none) (hlk : meth.locks = false)
    (hc : cells ≤ kc) (hs : slots ≤ ks) (hQ : Q v T.heap locs) (k : ∀ fs, (∀ (f : JFrame) (acts : List Action), f.method = m → f.locked = none → f.entered = [] → (doReturn e (T.setTop f) acts v).1 = T.setFrames fs) → Steps p.tables e below A (T.setFrames fs)) : own_Go p e below s Q kc ks A := by
  obtain ⟨fs, hr, hrun, hended, hW, hsame⟩ := X.leave (v := v) hv hlk
  exact ⟨_, _, k fs hr, hrun, hended, _, _, rfl, hQ, ⟨_, rfl⟩, hW, hsame.mono hc hs⟩
theorem own_retI {Q : Option Value → Heap → List Loc → Prop} {kc ks pc : Nat} {Ls : Array Slot} {z : Int32} {rest : List Value} (X : Stand p l e R s m args below meth c T locs cells slots) (hx : p.tables.exec = Jvm.exec) (hret : meth.sig.returnType = some .int) (hlk : meth.locks = false)
    (hd : decode c.code pc = .ok (.ireturn, 1)) (hc : cells ≤ kc) (hs : slots ≤ ks) (hQ : Q (some (.int z)) T.heap locs) : own_Go p e below s Q kc ks (T.setTop (mkF m pc Ls (.int z :: rest))) := by
  refine own_leave X (fun h => by rw [hret] at h; cases h) hlk hc hs hQ fun fs hl => ?_
  have hm' : T.vm.method? m = some meth := X.method'
  have hn : narrow .int (.int z) = .int z := rfl
  show Steps p.tables e below (T.setTop { method := m, pc := pc, locals := Ls, stack := _ :: rest, locked := none }) _
  jvm_step X.here [X.here.top, hx, hd, hm', hret, hn]
  first | (intro acts; rw [hl _ acts rfl rfl rfl]) | rw [hl _ _ rfl rfl rfl]
  exact Steps.refl _
theorem own_retN {Q : Option Value → Heap → List Loc → Prop} {kc ks pc : Nat} {Ls : Array Slot} {z : Int32} {rest : List Value} {t : FieldType} (X : Stand p l e R s m args below meth c T locs cells slots) (hx : p.tables.exec = Jvm.exec) (hret : meth.sig.returnType = some t) (ht : t = .boolean ∨ t = .byte ∨ t = .char ∨ t = .short) (hlk : meth.locks = false)
    (hd : decode c.code pc = .ok (.ireturn, 1)) (hc : cells ≤ kc) (hs : slots ≤ ks) (hQ : Q (some (.int (nar t z))) T.heap locs) : own_Go p e below s Q kc ks (T.setTop (mkF m pc Ls (.int z :: rest))) :=
  own_leave X (fun h => by rw [hret] at h; cases h) hlk hc hs hQ fun fs hl => retN X hx (t := t) hret ht hd hl
theorem own_nar01 {z : Int32} (h : z = 0 ∨ z = 1) : nar .boolean z = z := by rcases h with rfl | rfl <;> rfl
theorem own_retZ {Q : Option Value → Heap → List Loc → Prop} {kc ks pc : Nat} {Ls : Array Slot} {z : Int32} {rest : List Value} (X : Stand p l e R s m args below meth c T locs cells slots) (hx : p.tables.exec = Jvm.exec) (hret : meth.sig.returnType = some .boolean) (hlk : meth.locks = false)
    (hd : decode c.code pc = .ok (.ireturn, 1)) (hc : cells ≤ kc) (hs : slots ≤ ks) (hz : z = 0 ∨ z = 1) (hQ : Q (some (.int z)) T.heap locs) : own_Go p e below s Q kc ks (T.setTop (mkF m pc Ls (.int z :: rest))) :=
  own_retN X hx hret (Or.inl rfl) hlk hd hc hs (by rw [own_nar01 hz]; exact hQ)
theorem own_retJ {Q : Option Value → Heap → List Loc → Prop} {kc ks pc : Nat} {Ls : Array Slot} {z : Int64} (X : Stand p l e R s m args below meth c T locs cells slots) (hx : p.tables.exec = Jvm.exec) (hret : meth.sig.returnType = some .long) (hlk : meth.locks = false)
    (hd : decode c.code pc = .ok (.lreturn, 1)) (hc : cells ≤ kc) (hs : slots ≤ ks) (hQ : Q (some (.long z)) T.heap locs) : own_Go p e below s Q kc ks (T.setTop (mkF m pc Ls [.long z])) :=
  own_leave X (fun h => by rw [hret] at h; cases h) hlk hc hs hQ fun fs hl => X.lreturnOut hx hret hd hl
theorem own_retA {Q : Option Value → Heap → List Loc → Prop} {kc ks pc : Nat} {Ls : Array Slot} {w : Value} {t : FieldType} {rest : List Value} (X : Stand p l e R s m args below meth c T locs cells slots) (hx : p.tables.exec = Jvm.exec) (hret : meth.sig.returnType = some t) (ht : t.isReference = true) (hw : w.isRef = true) (hlk : meth.locks = false)
    (hd : decode c.code pc = .ok (.areturn, 1)) (hc : cells ≤ kc) (hs : slots ≤ ks) (hQ : Q (some w) T.heap locs) : own_Go p e below s Q kc ks (T.setTop (mkF m pc Ls (w :: rest))) := by
  refine own_leave X (fun h => by rw [hret] at h; cases h) hlk hc hs hQ fun fs hl => ?_
  have hm' : T.vm.method? m = some meth := X.method'
  show Steps p.tables e below (T.setTop { method := m, pc := pc, locals := Ls, stack := _ :: rest, locked := none }) _
  rcases ref_cases hw with rfl | ⟨a, rfl⟩
  all_goals
    jvm_step X.here [X.here.top, hx, hd, hm', hret, Value.isRef, ht]
    first | (intro acts; rw [hl _ acts rfl rfl rfl]) | rw [hl _ _ rfl rfl rfl]
    exact Steps.refl _
theorem own_retV {Q : Option Value → Heap → List Loc → Prop} {kc ks pc : Nat} {Ls : Array Slot} (X : Stand p l e R s m args below meth c T locs cells slots) (hx : p.tables.exec = Jvm.exec) (hret : meth.sig.returnType = none) (hlk : meth.locks = false)
    (hd : decode c.code pc = .ok (.return_, 1)) (hc : cells ≤ kc) (hs : slots ≤ ks) (hQ : Q none T.heap locs) : own_Go p e below s Q kc ks (T.setTop (mkF m pc Ls [])) :=
  own_leave X (fun _ => rfl) hlk hc hs hQ fun fs hl => X.returnOut hx hret hd hl
theorem own_getFR {Z : State} {a0 : Array Value} {h : Heap} (X : Stand p l e R s m args below meth c T locs cells slots) (hx : p.tables.exec = Jvm.exec) (hZ : Z.Warmed39 s.vm) {own O n d : String} {index : Nat} (hown : s.vm.findClass own = some m.cls) (w : (Jvm.Cond.fieldRef own index O n d).before a0 Z = true)
    (eT : T.heap = h) {a : Addr} {v : Value} (F : Fld Z h a O n d v) {g : JFrame} (hg : g.method = m) {rest : List Value} (hs : g.stack = .ref a :: rest) (hd : decode c.code g.pc = .ok (.getfield index, 3)) (target : State) (k : Steps p.tables e below (T.setTop { g with pc := g.pc + 3, stack := v :: rest }) target) : Steps p.tables e below (T.setTop g) target := by
  obtain ⟨cell, cf, kc, i, f, h1, h2, h3, h4, -, -, h7⟩ := F
  have hW : Z.Warmed39 T.vm := wtrans hZ X.warmed
  have w2 := Cond.fieldRef_warmed39 hW w
  obtain ⟨k', hi, -⟩ := State.fieldFound?_setVm (s := Z) hW.alike h2
  have hc : (Z.setVm T.vm).vm.findClass own = some m.cls := by show T.vm.findClass own = _; rw [X.warmed.alike.findClass]; exact hown
  obtain ⟨c1, k1, i1, f1, e1, hr⟩ := Cond.fieldRef_spec hc w2
  cases hi.symm.trans e1
  exact (X.getfieldR hx hg (cF := cf) (field := f) hr h3 hs (by rw [eT]; exact h1) h4 h7 hd (Steps.refl _)).trans k
theorem own_ite01 {c : Prop} [Decidable c] {a b : Int32} (ha : a = 0 ∨ a = 1) (hb : b = 0 ∨ b = 1) : (if c then a else b) = 0 ∨ (if c then a else b) = 1 := by split <;> assumption
end OwnKit
theorem own_remI (a b : Int32) : a - a / b * b = a % b := by
  apply Int32.toInt_inj.mp
  rw [Int32.toInt_sub, Int32.toInt_mul, Int32.toInt_div, Int32.toInt_mod]
  rw [Int.bmod_mul_bmod, Int.sub_bmod_bmod]
  have e : a.toInt - a.toInt.tdiv b.toInt * b.toInt = a.toInt.tmod b.toInt := by
    have := Int.mul_tdiv_add_tmod a.toInt b.toInt
    rw [Int.mul_comm] at this
    omega
  rw [e, ← Int32.toInt_mod]
  exact Int.bmod_eq_of_le (by have := Int32.le_toInt (a % b); omega) (by have := Int32.toInt_lt (a % b); omega)
theorem own_remJ (a b : Int64) : a - a / b * b = a % b := by
  apply Int64.toInt_inj.mp
  rw [Int64.toInt_sub, Int64.toInt_mul, Int64.toInt_div, Int64.toInt_mod]
  rw [Int.bmod_mul_bmod, Int.sub_bmod_bmod]
  have e : a.toInt - a.toInt.tdiv b.toInt * b.toInt = a.toInt.tmod b.toInt := by
    have := Int.mul_tdiv_add_tmod a.toInt b.toInt
    rw [Int.mul_comm] at this
    omega
  rw [e, ← Int64.toInt_mod]
  exact Int.bmod_eq_of_le (by have := Int64.le_toInt (a % b); omega) (by have := Int64.toInt_lt (a % b); omega)
theorem own_lc_eq {a b : Int64} (h : a = b) : lcmpW a b = 0 := by subst h; simp [lcmpW]
theorem own_lc_neq {a b : Int64} (h : ¬ (a = b)) : ¬ (lcmpW a b = 0) := by unfold lcmpW; split <;> first | decide | (rw [if_neg h]; decide)
theorem own_lc_lt {a b : Int64} (h : a < b) : lcmpW a b < 0 := by
  have h1 : ¬ (a > b) := fun q => Int64.lt_irrefl (Int64.lt_trans h q)
  have h2 : ¬ (a = b) := fun q => by subst q; exact Int64.lt_irrefl h
  rw [lcmpW, if_neg h1, if_neg h2]; decide
theorem own_lc_nlt {a b : Int64} (h : ¬ (a < b)) : ¬ (lcmpW a b < 0) := by
  unfold lcmpW
  split
  · decide
  · rename_i h1
    split
    · decide
    · rename_i h2; exact absurd (Int64.le_antisymm (Int64.not_lt.mp h1) (Int64.not_lt.mp h)) h2
theorem own_lc_gt {a b : Int64} (h : b < a) : (0 : Int32) < lcmpW a b := by rw [lcmpW, if_pos h]; decide
theorem own_lc_ngt {a b : Int64} (h : ¬ (b < a)) : ¬ ((0 : Int32) < lcmpW a b) := by
  rw [lcmpW, if_neg h]; split <;> decide
theorem own_rn {w : Value} {C : String} (h : w.isRef = true) : narrow (.object C) w = w := by rcases ref_cases h with rfl | ⟨a, rfl⟩ <;> rfl
theorem own_rf {w : Value} {C : String} (h : w.isRef = true) : fits (.object C) w = true := by rcases ref_cases h with rfl | ⟨a, rfl⟩ <;> rfl
theorem own_plainE {Z : State} {h : Heap} {a : Addr} {C : String} (E : Exa Z h a C) : ∀ cell : Cell, h[a]? = some cell → cell.vm.isStatics = false := fun cell hc => by
  obtain ⟨c, k, h1, -, -, h4, -⟩ := E
  cases h1.symm.trans hc; exact h4
theorem own_staKeep {Z : State} {h h' : Heap} {C n d : String} {v : Value} {ws : List Addr} (F : Sta Z h C n d v) (K : Keep h h' ws) (q : ∀ x ∈ ws, ∀ cell : Cell, h[x]? = some cell → cell.vm.isStatics = false) : Sta Z h' C n d v := by
  obtain ⟨cf, i, k, f, st, cell, h1, h2, h3, h4, h5, h6, h7⟩ := F
  exact ⟨cf, i, k, f, st, cell, h1, h2, h3, h4, K.2.1 st cell h5 (fun hm => by rw [q st hm cell h5] at h6; cases h6), h6, h7⟩
def own_up {α : Type} (f : Nat → α) (i : Nat) (v : α) : Nat → α := fun k => if k = i then v else f k
def own_AI (Z : State) (h : Heap) (a : Addr) (ty : FieldType) (n : Nat) (f : Nat → Int32) : Prop := ∃ c : Cell, Arr Z h a c ty ∧ c.slots.size = n ∧ n < 2 ^ 31 ∧ ∀ j, j < n → c.slots[j]? = some (.int (f j))
theorem own_AI.lt {Z : State} {h : Heap} {a : Addr} {ty : FieldType} {n : Nat} {f : Nat → Int32} (F : own_AI Z h a ty n f) : a < h.size := by obtain ⟨c, A, -⟩ := F; exact A.lt
theorem own_AI.ext {Z : State} {h h' : Heap} {a : Addr} {ty : FieldType} {n : Nat} {f : Nat → Int32} (F : own_AI Z h a ty n f) (E : Ext h h') : own_AI Z h' a ty n f := by obtain ⟨c, A, r⟩ := F; exact ⟨c, A.ext E, r⟩
theorem own_AI.other {Z : State} {h h' : Heap} {a b : Addr} {ty : FieldType} {n sl : Nat} {w : Value} {f : Nat → Int32} (F : own_AI Z h a ty n f) (W : Wr h h' b sl w) (q : a ≠ b) : own_AI Z h' a ty n f := by obtain ⟨c, A, r⟩ := F; exact ⟨c, A.other W q, r⟩
theorem own_AI.keep {Z : State} {h h' : Heap} {a : Addr} {ty : FieldType} {n : Nat} {ws : List Addr} {f : Nat → Int32} (F : own_AI Z h a ty n f) (K : Keep h h' ws) (q : a ∉ ws) : own_AI Z h' a ty n f := by obtain ⟨c, A, r⟩ := F; exact ⟨c, ⟨K.2.1 a c A.1 q, A.2⟩, r⟩
theorem own_plainAI {Z : State} {h : Heap} {a : Addr} {ty : FieldType} {n : Nat} {f : Nat → Int32} (F : own_AI Z h a ty n f) : ∀ cell : Cell, h[a]? = some cell → cell.vm.isStatics = false := fun cell hc => by
  obtain ⟨c, A, -⟩ := F
  cases A.1.symm.trans hc; exact A.plain
theorem own_AI.wr {Z : State} {h h' : Heap} {a : Addr} {ty : FieldType} {n i : Nat} {x : Int32} {f : Nat → Int32} (F : own_AI Z h a ty n f) (W : Wr h h' a i (.int x)) : own_AI Z h' a ty n (own_up f i x) := by
  obtain ⟨c, A, S, B, H⟩ := F
  refine ⟨_, A.same W, by rw [sz_set]; exact S, B, fun j hj => ?_⟩
  show (c.slots.setIfInBounds i _)[j]? = _
  rw [Array.getElem?_setIfInBounds]
  by_cases q : i = j
  · subst q
    rw [if_pos rfl, if_pos (by rw [S]; exact hj)]; simp [own_up]
  · rw [if_neg q, H j hj, own_up, if_neg (fun e => q e.symm)]
theorem own_AI.new {Z : State} {h : Heap} {a : Addr} {k : ClassId} {ty : FieldType} {z : Int32} {n : Nat} (A : Arr Z h a (newA k ty z) ty) (hd : defaultValue ty = .int 0) (hn : z.toNatClampNeg = n) : own_AI Z h a ty n (fun _ => 0) := by
  refine ⟨_, A, by rw [sz_new]; exact hn, ?_, fun j hj => ?_⟩
  · have := Int32.toInt_lt z; rw [← hn]; unfold Int32.toNatClampNeg; omega
  · have hs : (newA k ty z).slots.size = n := by rw [sz_new]; exact hn
    simp only [newA] at hs ⊢
    rw [Array.getElem?_replicate, if_pos (by rw [hn]; exact hj), hd]
def own_AJ (Z : State) (h : Heap) (a : Addr) (ty : FieldType) (n : Nat) (f : Nat → Int64) : Prop := ∃ c : Cell, Arr Z h a c ty ∧ c.slots.size = n ∧ n < 2 ^ 31 ∧ ∀ j, j < n → c.slots[j]? = some (.long (f j))
theorem own_AJ.lt {Z : State} {h : Heap} {a : Addr} {ty : FieldType} {n : Nat} {f : Nat → Int64} (F : own_AJ Z h a ty n f) : a < h.size := by obtain ⟨c, A, -⟩ := F; exact A.lt
theorem own_AJ.ext {Z : State} {h h' : Heap} {a : Addr} {ty : FieldType} {n : Nat} {f : Nat → Int64} (F : own_AJ Z h a ty n f) (E : Ext h h') : own_AJ Z h' a ty n f := by obtain ⟨c, A, r⟩ := F; exact ⟨c, A.ext E, r⟩
theorem own_AJ.other {Z : State} {h h' : Heap} {a b : Addr} {ty : FieldType} {n sl : Nat} {w : Value} {f : Nat → Int64} (F : own_AJ Z h a ty n f) (W : Wr h h' b sl w) (q : a ≠ b) : own_AJ Z h' a ty n f := by obtain ⟨c, A, r⟩ := F; exact ⟨c, A.other W q, r⟩
theorem own_AJ.keep {Z : State} {h h' : Heap} {a : Addr} {ty : FieldType} {n : Nat} {ws : List Addr} {f : Nat → Int64} (F : own_AJ Z h a ty n f) (K : Keep h h' ws) (q : a ∉ ws) : own_AJ Z h' a ty n f := by obtain ⟨c, A, r⟩ := F; exact ⟨c, ⟨K.2.1 a c A.1 q, A.2⟩, r⟩
theorem own_plainAJ {Z : State} {h : Heap} {a : Addr} {ty : FieldType} {n : Nat} {f : Nat → Int64} (F : own_AJ Z h a ty n f) : ∀ cell : Cell, h[a]? = some cell → cell.vm.isStatics = false := fun cell hc => by
  obtain ⟨c, A, -⟩ := F
  cases A.1.symm.trans hc; exact A.plain
theorem own_AJ.wr {Z : State} {h h' : Heap} {a : Addr} {ty : FieldType} {n i : Nat} {x : Int64} {f : Nat → Int64} (F : own_AJ Z h a ty n f) (W : Wr h h' a i (.long x)) : own_AJ Z h' a ty n (own_up f i x) := by
  obtain ⟨c, A, S, B, H⟩ := F
  refine ⟨_, A.same W, by rw [sz_set]; exact S, B, fun j hj => ?_⟩
  show (c.slots.setIfInBounds i _)[j]? = _
  rw [Array.getElem?_setIfInBounds]
  by_cases q : i = j
  · subst q
    rw [if_pos rfl, if_pos (by rw [S]; exact hj)]; simp [own_up]
  · rw [if_neg q, H j hj, own_up, if_neg (fun e => q e.symm)]
theorem own_AJ.new {Z : State} {h : Heap} {a : Addr} {k : ClassId} {ty : FieldType} {z : Int32} {n : Nat} (A : Arr Z h a (newA k ty z) ty) (hd : defaultValue ty = .long 0) (hn : z.toNatClampNeg = n) : own_AJ Z h a ty n (fun _ => 0) := by
  refine ⟨_, A, by rw [sz_new]; exact hn, ?_, fun j hj => ?_⟩
  · have := Int32.toInt_lt z; rw [← hn]; unfold Int32.toNatClampNeg; omega
  · have hs : (newA k ty z).slots.size = n := by rw [sz_new]; exact hn
    simp only [newA] at hs ⊢
    rw [Array.getElem?_replicate, if_pos (by rw [hn]; exact hj), hd]
section OwnArr
variable {p : Program} {l : Launch} {e : Env} {R : Room} {s : State} {m : MethodId} {args : Array Value} {below : List Frame} {meth : Method} {c : Code} {T : State} {locs : List Loc} {cells slots : Nat} {Z : State} {h : Heap}
theorem own_inb {j : Int32} {n k : Nat} (S : k = n) (hj : ¬ j < 0 ∧ j.toNatClampNeg < n) : ¬ (j < 0 ∨ k ≤ j.toNatClampNeg) := fun q => q.elim hj.1 (fun u => absurd hj.2 (by omega))
theorem own_ldI (X : Stand p l e R s m args below meth c T locs cells slots) (hx : p.tables.exec = Jvm.exec) (hZ : Z.Warmed39 s.vm) (eT : T.heap = h) {a : Addr} {n : Nat} {f : Nat → Int32} (A : own_AI Z h a .int n f) {j : Int32} (hj : ¬ j < 0 ∧ j.toNatClampNeg < n)
    {g : JFrame} (hg : g.method = m) {rest : List Value} (hs : g.stack = .int j :: .ref a :: rest) (hd : decode c.code g.pc = .ok (.iaload, 1)) (target : State) (k : Steps p.tables e below (T.setTop { g with pc := g.pc + 1, stack := .int (f j.toNatClampNeg) :: rest }) target) : Steps p.tables e below (T.setTop g) target := by
  obtain ⟨c', Ar, S, -, H⟩ := A
  exact X.iaload hx (by rw [eT]; exact Ar.1) (State.isArrayOf_alike hZ.alike Ar.2.1) Ar.2.2 (own_inb S hj) (H _ hj.2) hg hs hd target k
theorem own_ldB (X : Stand p l e R s m args below meth c T locs cells slots) (hx : p.tables.exec = Jvm.exec) (hZ : Z.Warmed39 s.vm) (eT : T.heap = h) {a : Addr} {n : Nat} {f : Nat → Int32} (A : own_AI Z h a .byte n f) {j : Int32} (hj : ¬ j < 0 ∧ j.toNatClampNeg < n)
    {g : JFrame} (hg : g.method = m) {rest : List Value} (hs : g.stack = .int j :: .ref a :: rest) (hd : decode c.code g.pc = .ok (.baload, 1)) (target : State) (k : Steps p.tables e below (T.setTop { g with pc := g.pc + 1, stack := .int (f j.toNatClampNeg) :: rest }) target) : Steps p.tables e below (T.setTop g) target := by
  obtain ⟨c', Ar, S, -, H⟩ := A
  exact X.baloadBytes hx (by rw [eT]; exact Ar.1) (State.isArrayOf_alike hZ.alike Ar.2.1) Ar.2.2 (own_inb S hj) (H _ hj.2) hg hs hd target k
theorem own_ldJ (X : Stand p l e R s m args below meth c T locs cells slots) (hx : p.tables.exec = Jvm.exec) (hZ : Z.Warmed39 s.vm) (eT : T.heap = h) {a : Addr} {n : Nat} {f : Nat → Int64} (A : own_AJ Z h a .long n f) {j : Int32} (hj : ¬ j < 0 ∧ j.toNatClampNeg < n)
    {g : JFrame} (hg : g.method = m) {rest : List Value} (hs : g.stack = .int j :: .ref a :: rest) (hd : decode c.code g.pc = .ok (.laload, 1)) (target : State) (k : Steps p.tables e below (T.setTop { g with pc := g.pc + 1, stack := .long (f j.toNatClampNeg) :: rest }) target) : Steps p.tables e below (T.setTop g) target := by
  obtain ⟨c', Ar, S, -, H⟩ := A
  exact X.laload hx (by rw [eT]; exact Ar.1) (State.isArrayOf_alike hZ.alike Ar.2.1) Ar.2.2 (own_inb S hj) (H _ hj.2) hg hs hd target k
theorem own_lenI (X : Stand p l e R s m args below meth c T locs cells slots) (hx : p.tables.exec = Jvm.exec) (hZ : Z.Warmed39 s.vm) (eT : T.heap = h) {a : Addr} {ty : FieldType} {n : Nat} {f : Nat → Int32} (A : own_AI Z h a ty n f)
    {g : JFrame} (hg : g.method = m) {rest : List Value} (hs : g.stack = .ref a :: rest) (hd : decode c.code g.pc = .ok (.arraylength, 1)) (target : State) (k : Steps p.tables e below (T.setTop { g with pc := g.pc + 1, stack := .int (n.toInt32) :: rest }) target) : Steps p.tables e below (T.setTop g) target := by
  obtain ⟨c', Ar, S, -, H⟩ := A
  exact X.arraylength hx (by rw [eT]; exact Ar.1) (State.isArrayOf_alike hZ.alike Ar.2.1) hg hs hd target (by rw [S]; exact k)
theorem own_lenJ (X : Stand p l e R s m args below meth c T locs cells slots) (hx : p.tables.exec = Jvm.exec) (hZ : Z.Warmed39 s.vm) (eT : T.heap = h) {a : Addr} {ty : FieldType} {n : Nat} {f : Nat → Int64} (A : own_AJ Z h a ty n f)
    {g : JFrame} (hg : g.method = m) {rest : List Value} (hs : g.stack = .ref a :: rest) (hd : decode c.code g.pc = .ok (.arraylength, 1)) (target : State) (k : Steps p.tables e below (T.setTop { g with pc := g.pc + 1, stack := .int (n.toInt32) :: rest }) target) : Steps p.tables e below (T.setTop g) target := by
  obtain ⟨c', Ar, S, -, H⟩ := A
  exact X.arraylength hx (by rw [eT]; exact Ar.1) (State.isArrayOf_alike hZ.alike Ar.2.1) hg hs hd target (by rw [S]; exact k)
theorem own_stI (X : Stand p l e R s m args below meth c T locs cells slots) (hx : p.tables.exec = Jvm.exec) (hZ : Z.Warmed39 s.vm) (eT : T.heap = h) {a : Addr} {n : Nat} {f : Nat → Int32} (A : own_AI Z h a .int n f) {j x : Int32} (hj : ¬ j < 0 ∧ j.toNatClampNeg < n)
    {g : JFrame} (hg : g.method = m) {rest : List Value} (hs : g.stack = .int x :: .int j :: .ref a :: rest) (hd : decode c.code g.pc = .ok (.iastore, 1)) :
    ∃ T' h', Stand p l e R s m args below meth c T' (locs ++ [⟨a, j.toNatClampNeg⟩]) cells slots ∧ T'.heap = h' ∧ Wr h h' a j.toNatClampNeg (.int x) ∧ own_AI Z h' a .int n (own_up f j.toNatClampNeg x) ∧ ∀ target, Steps p.tables e below (T'.setTop { g with pc := g.pc + 1, stack := rest }) target → Steps p.tables e below (T.setTop g) target := by
  have A2 := A
  obtain ⟨c', Ar, S, -, H⟩ := A
  obtain ⟨T', h', X', e', W, st⟩ := stI X hx hZ eT Ar (j := j) (x := x) (own_inb S hj) hg hs hd
  exact ⟨T', h', X', e', W, A2.wr W, st⟩
theorem own_stB (X : Stand p l e R s m args below meth c T locs cells slots) (hx : p.tables.exec = Jvm.exec) (hZ : Z.Warmed39 s.vm) (eT : T.heap = h) {a : Addr} {n : Nat} {f : Nat → Int32} (A : own_AI Z h a .byte n f) {j x : Int32} (hj : ¬ j < 0 ∧ j.toNatClampNeg < n)
    {g : JFrame} (hg : g.method = m) {rest : List Value} (hs : g.stack = .int x :: .int j :: .ref a :: rest) (hd : decode c.code g.pc = .ok (.bastore, 1)) :
    ∃ T' h', Stand p l e R s m args below meth c T' (locs ++ [⟨a, j.toNatClampNeg⟩]) cells slots ∧ T'.heap = h' ∧ Wr h h' a j.toNatClampNeg (.int (nar .byte x)) ∧ own_AI Z h' a .byte n (own_up f j.toNatClampNeg (nar .byte x)) ∧ ∀ target, Steps p.tables e below (T'.setTop { g with pc := g.pc + 1, stack := rest }) target → Steps p.tables e below (T.setTop g) target := by
  have A2 := A
  obtain ⟨c', Ar, S, -, H⟩ := A
  obtain ⟨T', h', X', e', W, st⟩ := stB X hx hZ eT Ar (j := j) (x := x) (own_inb S hj) hg hs hd
  exact ⟨T', h', X', e', W, A2.wr W, st⟩
theorem own_stC (X : Stand p l e R s m args below meth c T locs cells slots) (hx : p.tables.exec = Jvm.exec) (hZ : Z.Warmed39 s.vm) (eT : T.heap = h) {a : Addr} {n : Nat} {f : Nat → Int32} (A : own_AI Z h a .char n f) {j x : Int32} (hj : ¬ j < 0 ∧ j.toNatClampNeg < n)
    {g : JFrame} (hg : g.method = m) {rest : List Value} (hs : g.stack = .int x :: .int j :: .ref a :: rest) (hd : decode c.code g.pc = .ok (.castore, 1)) :
    ∃ T' h', Stand p l e R s m args below meth c T' (locs ++ [⟨a, j.toNatClampNeg⟩]) cells slots ∧ T'.heap = h' ∧ Wr h h' a j.toNatClampNeg (.int (nar .char x)) ∧ own_AI Z h' a .char n (own_up f j.toNatClampNeg (nar .char x)) ∧ ∀ target, Steps p.tables e below (T'.setTop { g with pc := g.pc + 1, stack := rest }) target → Steps p.tables e below (T.setTop g) target := by
  have A2 := A
  obtain ⟨c', Ar, S, -, H⟩ := A
  obtain ⟨T', h', X', e', W, st⟩ := stC X hx hZ eT Ar (j := j) (x := x) (own_inb S hj) hg hs hd
  exact ⟨T', h', X', e', W, A2.wr W, st⟩
theorem own_stJ (X : Stand p l e R s m args below meth c T locs cells slots) (hx : p.tables.exec = Jvm.exec) (hZ : Z.Warmed39 s.vm) (eT : T.heap = h) {a : Addr} {n : Nat} {f : Nat → Int64} (A : own_AJ Z h a .long n f) {j : Int32} {x : Int64} (hj : ¬ j < 0 ∧ j.toNatClampNeg < n)
    {g : JFrame} (hg : g.method = m) {rest : List Value} (hs : g.stack = .long x :: .int j :: .ref a :: rest) (hd : decode c.code g.pc = .ok (.lastore, 1)) :
    ∃ T' h', Stand p l e R s m args below meth c T' (locs ++ [⟨a, j.toNatClampNeg⟩]) cells slots ∧ T'.heap = h' ∧ Wr h h' a j.toNatClampNeg (.long x) ∧ own_AJ Z h' a .long n (own_up f j.toNatClampNeg x) ∧ ∀ target, Steps p.tables e below (T'.setTop { g with pc := g.pc + 1, stack := rest }) target → Steps p.tables e below (T.setTop g) target := by
  have A2 := A
  obtain ⟨c', Ar, S, -, H⟩ := A
  obtain ⟨T', h', X', e', W, st⟩ := stJ X hx hZ eT Ar (j := j) (x := x) (own_inb S hj) hg hs hd
  exact ⟨T', h', X', e', W, A2.wr W, st⟩
end OwnArr
section OwnKitW
variable {p : Program} {l : Launch} {e : Env} {R : Room} {s : State} {m : MethodId} {args : Array Value} {below : List Frame} {meth : Method} {c : Code} {T : State} {locs : List Loc} {cells slots : Nat}
def own_GoW (p : Program) (e : Env) (below : List Frame) (s : State) (Q : Option Value → Heap → List Loc → Prop) (kc ks : Nat) (A : State) : Prop :=
  ∃ s₂ o, Steps p.tables e below A s₂ ∧ s₂.status = .running ∧ Ended s₂ below o ∧ ∃ v L, o = .returned v ∧ Q v s₂.heap L ∧ ReturnedEndW s o s₂ L kc ks
theorem own_goW {Q : Option Value → Heap → List Loc → Prop} {kc ks : Nat} {A B : State} (h : ∀ t, Steps p.tables e below B t → Steps p.tables e below A t) (k : own_GoW p e below s Q kc ks B) : own_GoW p e below s Q kc ks A := by
  obtain ⟨s₂, o, h1, h2⟩ := k
  exact ⟨s₂, o, h _ h1, h2⟩
theorem own_retZW {vm₁ : Vm} {n : Nat} {Q : Option Value → Heap → List Loc → Prop} {kc ks pc : Nat} {Ls : Array Slot} {z : Int32} {rest : List Value} (X : Stand p l e R (s.setVm vm₁) m args below meth c T locs cells slots) (hx : p.tables.exec = Jvm.exec) (hret : meth.sig.returnType = some .boolean) (hlk : meth.locks = false)
    (hd : decode c.code pc = .ok (.ireturn, 1)) (hS : s.Since vm₁ n) (hn : n ≤ T.heap.size) (hc : cells ≤ kc) (hs : slots ≤ ks) (hz : z = 0 ∨ z = 1) (hQ : Q (some (.int z)) T.heap locs) : own_GoW p e below s Q kc ks (T.setTop (mkF m pc Ls (.int z :: rest))) := by
  obtain ⟨fs, hr, hrun, hended, h1, h2, h3, hsame⟩ := X.leaveW hS hn (v := some (.int (nar .boolean z))) (fun h => by rw [hret] at h; cases h) hlk
  exact ⟨_, _, retN X hx (t := .boolean) hret (Or.inl rfl) hd hr, hrun, hended, _, _, rfl, by rw [own_nar01 hz]; exact hQ, h1, h2, h3, hsame.mono hc hs⟩
end OwnKitW
theorem d2_0 : decode prog_35_method_1_code 0 = .ok (.aload_n 0, 1) := by decide +kernel
theorem d2_1 : decode prog_35_method_1_code 1 = .ok (.invokespecial 1, 3) := by decide +kernel
theorem d2_4 : decode prog_35_method_1_code 4 = .ok (.aload_n 0, 1) := by decide +kernel
theorem d2_5 : decode prog_35_method_1_code 5 = .ok (.aload_n 1, 1) := by decide +kernel
theorem d2_6 : decode prog_35_method_1_code 6 = .ok (.putfield 7, 3) := by decide +kernel
theorem d2_9 : decode prog_35_method_1_code 9 = .ok (.return_, 1) := by decide +kernel
theorem ef_2 (m : MethodId) (r0 : Addr) (r1 : Addr) : entryFrame m #[(.ref r0), (.ref r1)] 2 = mkF m 0 #[.val (.ref r0), .val (.ref r1)] [] := by (first | (simp [entryFrame, mkF, argsToLocals, Value.category]; done) | rfl)
theorem pn0 : plainName "org/tagwright/core/Field" = true := by first | (simp [plainName, overriddenIn]; done) | decide +kernel
def Q2 (Z : State) (r0 : Addr) (r1 : Addr) (u_tag_r0 : Value) (w3 : Int32) (w4 : Int32) (u_bytes_r0 : Value) (w6 : Int32) (w7 : Int32) (u_delimiters_r0 : Value) (h0 : Heap) (n0 : Nat) (v : Option Value) (h : Heap) (L : List Loc) : Prop := v = none ∧ Fr n0 L ∧ Keep h0 h [r0] ∧ Exa Z h r0 "org/tagwright/core/DataField" ∧ Fld Z h r0 "org/tagwright/core/Field" "tag" "Ljava/lang/String;" (.ref r1) ∧ Fld Z h r0 "org/tagwright/core/DataField" "indicator1" "B" (.int w3) ∧ Fld Z h r0 "org/tagwright/core/DataField" "indicator2" "B" (.int w4) ∧ Fld Z h r0 "org/tagwright/core/DataField" "bytes" "[B" u_bytes_r0 ∧ Fld Z h r0 "org/tagwright/core/DataField" "from" "I" (.int w6) ∧ Fld Z h r0 "org/tagwright/core/DataField" "to" "I" (.int w7) ∧ Fld Z h r0 "org/tagwright/core/DataField" "delimiters" "[I" u_delimiters_r0
set_option maxRecDepth 65536 in
set_option maxHeartbeats 40000000 in
theorem rm2 (l : Launch) (Z : State) (a0 : Array Value) (hw : ∀ d ∈ tables_1, d.before a0 Z = true) (ws : List Jvm.Cond) (r0 : Addr) (r1 : Addr) (u_tag_r0 : Value) (w3 : Int32) (w4 : Int32) (u_bytes_r0 : Value) (w6 : Int32) (w7 : Int32) (u_delimiters_r0 : Value) (h0 : Heap) (n0 : Nat) (Z0 : n0 ≤ h0.size) (E_r0 : Exa Z h0 r0 "org/tagwright/core/DataField") (F_tag_r0 : Fld Z h0 r0 "org/tagwright/core/Field" "tag" "Ljava/lang/String;" u_tag_r0) (F_indicator1_r0 : Fld Z h0 r0 "org/tagwright/core/DataField" "indicator1" "B" (.int w3)) (F_indicator2_r0 : Fld Z h0 r0 "org/tagwright/core/DataField" "indicator2" "B" (.int w4)) (F_bytes_r0 : Fld Z h0 r0 "org/tagwright/core/DataField" "bytes" "[B" u_bytes_r0) (F_from_r0 : Fld Z h0 r0 "org/tagwright/core/DataField" "from" "I" (.int w6)) (F_to_r0 : Fld Z h0 r0 "org/tagwright/core/DataField" "to" "I" (.int w7)) (F_delimiters_r0 : Fld Z h0 r0 "org/tagwright/core/DataField" "delimiters" "[I" u_delimiters_r0) (g_r0 : n0 ≤ r0) :
    MetFree l (⟨"org/tagwright/core/Field", "<init>", "(Ljava/lang/String;)V"⟩ : MethodName) (head1 (Jvm.Cond.code (⟨"org/tagwright/core/Field", "<init>", "(Ljava/lang/String;)V"⟩ : MethodName) prog_35_method_1_code 2 none :: ws) ({ frames := 1, cells := 0, slots := 0, locals := 12 } : Room)) (fun a U => a = #[(.ref r0), (.ref r1)] ∧ Z.Warmed39 U.vm ∧ U.heap = h0) (fun _ _ _ _ _ => True) (fun _ U o U' => ∃ v L, o = .returned v ∧ Q2 Z r0 r1 u_tag_r0 w3 w4 u_bytes_r0 w6 w7 u_delimiters_r0 h0 n0 v U'.heap L ∧ FrameEnd U o U' L ({ frames := 1, cells := 0, slots := 0, locals := 12 } : Room).cells ({ frames := 1, cells := 0, slots := 0, locals := 12 } : Room).slots) := by
  refine MetFree.of_bodySF (plainFor_of_name pn0) hisR ?_
  intro p e s m args below meth c s₁ Bd hml0 hP hK
  obtain ⟨rfl, hZ, hh⟩ := hP
  have hx := Bd.exec
  have hby := Bd.bytes
  have hml : c.maxLocals = 2 := hml0
  have hown : s.vm.findClass "org/tagwright/core/Field" = some m.cls := findClass_of_methodNamed Bd.named
  have hnm := (name_of_methodNamed Bd.named Bd.method).1
  have X0 : Stand p l e ({ frames := 1, cells := 0, slots := 0, locals := 12 } : Room) s m #[(.ref r0), (.ref r1)] below meth c s₁ [] 0 0 := Stand.of_body Bd
  have e0 : s₁.heap = h0 := by rw [← hh, Bd.state]; rfl
  have N0 := Fr.nil n0
  have K0 : Keep h0 h0 [r0] := Keep.refl h0 _
  show own_Go p e below s (Q2 Z r0 r1 u_tag_r0 w3 w4 u_bytes_r0 w6 w7 u_delimiters_r0 h0 n0) ({ frames := 1, cells := 0, slots := 0, locals := 12 } : Room).cells ({ frames := 1, cells := 0, slots := 0, locals := 12 } : Room).slots (s₁.setTop (entryFrame m #[(.ref r0), (.ref r1)] 2))
  refine own_go (fun t k => castTop (ef_2 m r0 r1) k) ?_
  obtain ⟨T101, X101, e101, st101⟩ := initO X0 hx hZ hown (hw _ (List.mem_of_getElem? (i := 21) rfl)) (hw _ (List.mem_of_getElem? (i := 22) rfl)) (hw _ (List.mem_of_getElem? (i := 23) rfl)) e0 (g := (mkF m 1 #[.val (.ref r0), .val (.ref r1)] [(.ref r0)])) rfl (by rw [hml]; rfl) rfl (hb hby d2_1) (by decide) (W := 0) (by show 2 * 0 + _ ≤ _; exact Nat.le_of_eq rfl) (by decide)
  obtain ⟨T102, h102, X102, e102, W102, st102⟩ := putF X101 hx hZ hown (host := "") (Or.inl (hw _ (List.mem_of_getElem? (i := 24) rfl))) Via.refl e101 F_tag_r0 E_r0 (Or.inr ⟨(hw _ (List.mem_of_getElem? (i := 25) rfl)), rfl, hnm⟩) (hw _ (List.mem_of_getElem? (i := 3) rfl)) (ty := (.object "java/lang/String")) (by decide) rfl rfl (g := (mkF m 6 #[.val (.ref r0), .val (.ref r1)] [(.ref r1), (.ref r0)])) rfl rfl (hb hby d2_6)
  have F103 := E_r0.wr W102
  have F104 := F_tag_r0.same W102
  have F105 := F_indicator1_r0.other W102 (Or.inr (slot_ne (Or.inr (hw _ (List.mem_of_getElem? (i := 27) rfl))) (Or.inr (hw _ (List.mem_of_getElem? (i := 25) rfl))) (by decide) (t := .byte) (t' := (.object "java/lang/String")) (by decide) (by decide)))
  have F106 := F_indicator2_r0.other W102 (Or.inr (slot_ne (Or.inr (hw _ (List.mem_of_getElem? (i := 29) rfl))) (Or.inr (hw _ (List.mem_of_getElem? (i := 25) rfl))) (by decide) (t := .byte) (t' := (.object "java/lang/String")) (by decide) (by decide)))
  have F107 := F_bytes_r0.other W102 (Or.inr (slot_ne (Or.inr (hw _ (List.mem_of_getElem? (i := 31) rfl))) (Or.inr (hw _ (List.mem_of_getElem? (i := 25) rfl))) (by decide) (t := (.array .byte)) (t' := (.object "java/lang/String")) (by decide) (by decide)))
  have F108 := F_from_r0.other W102 (Or.inr (slot_ne (Or.inr (hw _ (List.mem_of_getElem? (i := 33) rfl))) (Or.inr (hw _ (List.mem_of_getElem? (i := 25) rfl))) (by decide) (t := .int) (t' := (.object "java/lang/String")) (by decide) (by decide)))
  have F109 := F_to_r0.other W102 (Or.inr (slot_ne (Or.inr (hw _ (List.mem_of_getElem? (i := 35) rfl))) (Or.inr (hw _ (List.mem_of_getElem? (i := 25) rfl))) (by decide) (t := .int) (t' := (.object "java/lang/String")) (by decide) (by decide)))
  have F110 := F_delimiters_r0.other W102 (Or.inr (slot_ne (Or.inr (hw _ (List.mem_of_getElem? (i := 37) rfl))) (Or.inr (hw _ (List.mem_of_getElem? (i := 25) rfl))) (by decide) (t := (.array .int)) (t' := (.object "java/lang/String")) (by decide) (by decide)))
  have Z111 : n0 ≤ h102.size := Nat.le_trans Z0 (Keep.of_wr W102).1
  have K112 : Keep h0 h102 [r0] := K0.wr W102 (Or.inl (List.mem_of_getElem? (i := 0) rfl))
  have N113 := Fr.snoc X102 N0 g_r0
  have hgo114 : ∀ t, Steps p.tables e below (T102.setTop (mkF m 9 #[.val (.ref r0), .val (.ref r1)] [])) t → Steps p.tables e below (s₁.setTop (mkF m 0 #[.val (.ref r0), .val (.ref r1)] [])) t := by
    intro t kt
    show Steps p.tables e below (s₁.setTop (mkF m 0 #[.val (.ref r0), .val (.ref r1)] [])) _
    refine XS.aloadN X0.here hx rfl (hb hby d2_0) rfl rfl ?_
    show Steps p.tables e below (s₁.setTop (mkF m 1 #[.val (.ref r0), .val (.ref r1)] [(.ref r0)])) _
    refine st101 _ ?_
    show Steps p.tables e below (T101.setTop (mkF m 4 #[.val (.ref r0), .val (.ref r1)] [])) _
    refine XS.aloadN X101.here hx rfl (hb hby d2_4) rfl rfl ?_
    show Steps p.tables e below (T101.setTop (mkF m 5 #[.val (.ref r0), .val (.ref r1)] [(.ref r0)])) _
    refine XS.aloadN X101.here hx rfl (hb hby d2_5) rfl rfl ?_
    show Steps p.tables e below (T101.setTop (mkF m 6 #[.val (.ref r0), .val (.ref r1)] [(.ref r1), (.ref r0)])) _
    refine st102 _ ?_
    exact kt
  refine own_go hgo114 ?_
  exact own_retV X102 hx Bd.returns Bd.notSynchronized (hb hby d2_9) (by decide) (by decide) (by rw [e102]; exact ⟨(by rfl), N113, K112, F103, (by exact F104), (by exact F105), (by exact F106), (by exact F107), (by exact F108), (by exact F109), (by exact F110)⟩)
theorem pd1 : parseMethodDescriptor "(Ljava/lang/String;)V" = some ⟨[(.object "java/lang/String")], none⟩ := by decide +kernel
theorem d1_0 : decode prog_30_method_3_code 0 = .ok (.aload_n 0, 1) := by decide +kernel
theorem d1_1 : decode prog_30_method_3_code 1 = .ok (.aload_n 1, 1) := by decide +kernel
theorem d1_2 : decode prog_30_method_3_code 2 = .ok (.invokespecial 28, 3) := by decide +kernel
theorem d1_5 : decode prog_30_method_3_code 5 = .ok (.aload_n 0, 1) := by decide +kernel
theorem d1_6 : decode prog_30_method_3_code 6 = .ok (.iload_n 2, 1) := by decide +kernel
theorem d1_7 : decode prog_30_method_3_code 7 = .ok (.putfield 33, 3) := by decide +kernel
theorem d1_10 : decode prog_30_method_3_code 10 = .ok (.aload_n 0, 1) := by decide +kernel
theorem d1_11 : decode prog_30_method_3_code 11 = .ok (.iload_n 3, 1) := by decide +kernel
theorem d1_12 : decode prog_30_method_3_code 12 = .ok (.putfield 37, 3) := by decide +kernel
theorem d1_15 : decode prog_30_method_3_code 15 = .ok (.aload_n 0, 1) := by decide +kernel
theorem d1_16 : decode prog_30_method_3_code 16 = .ok (.aload 4, 2) := by decide +kernel
theorem d1_18 : decode prog_30_method_3_code 18 = .ok (.putfield 40, 3) := by decide +kernel
theorem d1_21 : decode prog_30_method_3_code 21 = .ok (.aload_n 0, 1) := by decide +kernel
theorem d1_22 : decode prog_30_method_3_code 22 = .ok (.iload 5, 2) := by decide +kernel
theorem d1_24 : decode prog_30_method_3_code 24 = .ok (.putfield 43, 3) := by decide +kernel
theorem d1_27 : decode prog_30_method_3_code 27 = .ok (.aload_n 0, 1) := by decide +kernel
theorem d1_28 : decode prog_30_method_3_code 28 = .ok (.iload 6, 2) := by decide +kernel
theorem d1_30 : decode prog_30_method_3_code 30 = .ok (.putfield 47, 3) := by decide +kernel
theorem d1_33 : decode prog_30_method_3_code 33 = .ok (.aload_n 0, 1) := by decide +kernel
theorem d1_34 : decode prog_30_method_3_code 34 = .ok (.aload 7, 2) := by decide +kernel
theorem d1_36 : decode prog_30_method_3_code 36 = .ok (.putfield 50, 3) := by decide +kernel
theorem d1_39 : decode prog_30_method_3_code 39 = .ok (.return_, 1) := by decide +kernel
theorem ef_1 (m : MethodId) (r0 : Addr) (r1 : Addr) (p2 : Int32) (p3 : Int32) (r4 : Addr) (p5 : Int32) (p6 : Int32) (r7 : Addr) : entryFrame m #[(.ref r0), (.ref r1), (.int p2), (.int p3), (.ref r4), (.int p5), (.int p6), (.ref r7)] 8 = mkF m 0 #[.val (.ref r0), .val (.ref r1), .val (.int p2), .val (.int p3), .val (.ref r4), .val (.int p5), .val (.int p6), .val (.ref r7)] [] := by (first | (simp [entryFrame, mkF, argsToLocals, Value.category]; done) | rfl)
theorem pn2 : plainName "org/tagwright/core/DataField" = true := by first | (simp [plainName, overriddenIn]; done) | decide +kernel
def Q1 (Z : State) (r0 : Addr) (r1 : Addr) (p2 : Int32) (p3 : Int32) (r4 : Addr) (p5 : Int32) (p6 : Int32) (r7 : Addr) (u_tag_r0 : Value) (w9 : Int32) (w10 : Int32) (u_bytes_r0 : Value) (w12 : Int32) (w13 : Int32) (u_delimiters_r0 : Value) (h0 : Heap) (n0 : Nat) (v : Option Value) (h : Heap) (L : List Loc) : Prop := v = none ∧ Fr n0 L ∧ Keep h0 h [r0] ∧ Exa Z h r0 "org/tagwright/core/DataField" ∧ Fld Z h r0 "org/tagwright/core/Field" "tag" "Ljava/lang/String;" (.ref r1) ∧ Fld Z h r0 "org/tagwright/core/DataField" "indicator1" "B" (.int (nar .byte p2)) ∧ Fld Z h r0 "org/tagwright/core/DataField" "indicator2" "B" (.int (nar .byte p3)) ∧ Fld Z h r0 "org/tagwright/core/DataField" "bytes" "[B" (.ref r4) ∧ Fld Z h r0 "org/tagwright/core/DataField" "from" "I" (.int p5) ∧ Fld Z h r0 "org/tagwright/core/DataField" "to" "I" (.int p6) ∧ Fld Z h r0 "org/tagwright/core/DataField" "delimiters" "[I" (.ref r7)
set_option maxRecDepth 65536 in
set_option maxHeartbeats 40000000 in
theorem rm1 (l : Launch) (Z : State) (a0 : Array Value) (hw : ∀ d ∈ tables_1, d.before a0 Z = true) (ws : List Jvm.Cond) (r0 : Addr) (r1 : Addr) (p2 : Int32) (p3 : Int32) (r4 : Addr) (p5 : Int32) (p6 : Int32) (r7 : Addr) (u_tag_r0 : Value) (w9 : Int32) (w10 : Int32) (u_bytes_r0 : Value) (w12 : Int32) (w13 : Int32) (u_delimiters_r0 : Value) (h0 : Heap) (n0 : Nat) (Z0 : n0 ≤ h0.size) (E_r0 : Exa Z h0 r0 "org/tagwright/core/DataField") (F_tag_r0 : Fld Z h0 r0 "org/tagwright/core/Field" "tag" "Ljava/lang/String;" u_tag_r0) (F_indicator1_r0 : Fld Z h0 r0 "org/tagwright/core/DataField" "indicator1" "B" (.int w9)) (F_indicator2_r0 : Fld Z h0 r0 "org/tagwright/core/DataField" "indicator2" "B" (.int w10)) (F_bytes_r0 : Fld Z h0 r0 "org/tagwright/core/DataField" "bytes" "[B" u_bytes_r0) (F_from_r0 : Fld Z h0 r0 "org/tagwright/core/DataField" "from" "I" (.int w12)) (F_to_r0 : Fld Z h0 r0 "org/tagwright/core/DataField" "to" "I" (.int w13)) (F_delimiters_r0 : Fld Z h0 r0 "org/tagwright/core/DataField" "delimiters" "[I" u_delimiters_r0) (g_r0 : n0 ≤ r0) :
    MetFree l (⟨"org/tagwright/core/DataField", "<init>", "(Ljava/lang/String;BB[BII[I)V"⟩ : MethodName) (head1 (Jvm.Cond.code (⟨"org/tagwright/core/DataField", "<init>", "(Ljava/lang/String;BB[BII[I)V"⟩ : MethodName) prog_30_method_3_code 8 none :: ws) ({ frames := 2, cells := 0, slots := 0, locals := 25 } : Room)) (fun a U => a = #[(.ref r0), (.ref r1), (.int p2), (.int p3), (.ref r4), (.int p5), (.int p6), (.ref r7)] ∧ Z.Warmed39 U.vm ∧ U.heap = h0) (fun _ _ _ _ _ => True) (fun _ U o U' => ∃ v L, o = .returned v ∧ Q1 Z r0 r1 p2 p3 r4 p5 p6 r7 u_tag_r0 w9 w10 u_bytes_r0 w12 w13 u_delimiters_r0 h0 n0 v U'.heap L ∧ FrameEnd U o U' L ({ frames := 2, cells := 0, slots := 0, locals := 25 } : Room).cells ({ frames := 2, cells := 0, slots := 0, locals := 25 } : Room).slots) := by
  refine MetFree.of_bodySF (plainFor_of_name pn2) hisR ?_
  intro p e s m args below meth c s₁ Bd hml0 hP hK
  obtain ⟨rfl, hZ, hh⟩ := hP
  have hx := Bd.exec
  have hby := Bd.bytes
  have hml : c.maxLocals = 8 := hml0
  have hown : s.vm.findClass "org/tagwright/core/DataField" = some m.cls := findClass_of_methodNamed Bd.named
  have hnm := (name_of_methodNamed Bd.named Bd.method).1
  have X0 : Stand p l e ({ frames := 2, cells := 0, slots := 0, locals := 25 } : Room) s m #[(.ref r0), (.ref r1), (.int p2), (.int p3), (.ref r4), (.int p5), (.int p6), (.ref r7)] below meth c s₁ [] 0 0 := Stand.of_body Bd
  have e0 : s₁.heap = h0 := by rw [← hh, Bd.state]; rfl
  have N0 := Fr.nil n0
  have K0 : Keep h0 h0 [r0] := Keep.refl h0 _
  show own_Go p e below s (Q1 Z r0 r1 p2 p3 r4 p5 p6 r7 u_tag_r0 w9 w10 u_bytes_r0 w12 w13 u_delimiters_r0 h0 n0) ({ frames := 2, cells := 0, slots := 0, locals := 25 } : Room).cells ({ frames := 2, cells := 0, slots := 0, locals := 25 } : Room).slots (s₁.setTop (entryFrame m #[(.ref r0), (.ref r1), (.int p2), (.int p3), (.ref r4), (.int p5), (.int p6), (.ref r7)] 8))
  refine own_go (fun t k => castTop (ef_1 m r0 r1 p2 p3 r4 p5 p6 r7) k) ?_
  obtain ⟨_, _, ⟨T101, L101, k101, n101⟩, -, X101, ⟨Lc101, hQ101, l101, y101, z101⟩, st101⟩ := X0.specialBack hx (y := (⟨"org/tagwright/core/Field", "<init>", "(Ljava/lang/String;)V"⟩ : MethodName)) rfl hown (mvT hZ (hw _ (List.mem_of_getElem? (i := 16) rfl))) (mvT hZ (hw _ (List.mem_of_getElem? (i := 17) rfl))) (mvT hZ (hw _ (List.mem_of_getElem? (i := 20) rfl))) (by decide) (backOf (W := 0) (rm2 l Z a0 hw [] r0 r1 u_tag_r0 w9 w10 u_bytes_r0 w12 w13 u_delimiters_r0 h0 n0 Z0 E_r0 F_tag_r0 F_indicator1_r0 F_indicator2_r0 F_bytes_r0 F_from_r0 F_to_r0 F_delimiters_r0 g_r0) hZ (hw _ (List.mem_of_getElem? (i := 20) rfl)) (hw _ (List.mem_of_getElem? (i := 19) rfl)) (by decide) (by decide)) (g := (mkF m 2 #[.val (.ref r0), .val (.ref r1), .val (.int p2), .val (.int p3), .val (.ref r4), .val (.int p5), .val (.int p6), .val (.ref r7)] [(.ref r1), (.ref r0)])) rfl (by rw [hml]; rfl) (Steps.refl _) (a := r0) (argsL := [(.ref r1)]) (rest := []) (lenOf pd1 rfl) rfl (by show 2 * 0 + _ ≤ _; exact Nat.le_of_eq rfl) (hb hby d1_2) (fun _ _ => ⟨rfl, e0, (by decide : 0 + 0 ≤ _), (by decide : 0 + 0 ≤ _)⟩)
  dsimp only [Pt.U, Pt.locs, Pt.cells, Pt.slots] at X101 l101 y101 z101 st101 hQ101
  subst l101 y101 z101
  obtain ⟨rfl, N101q, K101q, F101_0, F101_1, F101_2, F101_3, F101_4, F101_5, F101_6, F101_7⟩ := hQ101
  have F102 := E_r0.keep K101q
  have Z103 : n0 ≤ T101.heap.size := Nat.le_trans Z0 K101q.1
  have K104 : Keep h0 T101.heap [r0] := K0.trans K101q (allS (Or.inl (List.mem_of_getElem? (i := 0) rfl)) all0)
  have N101 := Fr.app N0 N101q
  obtain ⟨T105, h105, X105, e105, W105, st105⟩ := putFN X101 hx hZ hown (hw _ (List.mem_of_getElem? (i := 26) rfl)) Via.refl (rfl : T101.heap = T101.heap) F101_2 F101_0 (Or.inr ⟨(hw _ (List.mem_of_getElem? (i := 27) rfl)), rfl, hnm⟩) (hw _ (List.mem_of_getElem? (i := 3) rfl)) (ty := .byte) (v' := (.int (nar .byte p2))) (by decide) rfl (fits_nar_byte _) (g := (mkF m 7 #[.val (.ref r0), .val (.ref r1), .val (.int p2), .val (.int p3), .val (.ref r4), .val (.int p5), .val (.int p6), .val (.ref r7)] [(.int p2), (.ref r0)])) rfl rfl (hb hby d1_7)
  have F106 := F101_0.wr W105
  have F107 := F101_1.other W105 (Or.inr (slot_ne (Or.inr (hw _ (List.mem_of_getElem? (i := 25) rfl))) (Or.inr (hw _ (List.mem_of_getElem? (i := 27) rfl))) (by decide) (t := (.object "java/lang/String")) (t' := .byte) (by decide) (by decide)))
  have F108 := F101_2.same W105
  have F109 := F101_3.other W105 (Or.inr (slot_ne (Or.inr (hw _ (List.mem_of_getElem? (i := 29) rfl))) (Or.inr (hw _ (List.mem_of_getElem? (i := 27) rfl))) (by decide) (t := .byte) (t' := .byte) (by decide) (by decide)))
  have F110 := F101_4.other W105 (Or.inr (slot_ne (Or.inr (hw _ (List.mem_of_getElem? (i := 31) rfl))) (Or.inr (hw _ (List.mem_of_getElem? (i := 27) rfl))) (by decide) (t := (.array .byte)) (t' := .byte) (by decide) (by decide)))
  have F111 := F101_5.other W105 (Or.inr (slot_ne (Or.inr (hw _ (List.mem_of_getElem? (i := 33) rfl))) (Or.inr (hw _ (List.mem_of_getElem? (i := 27) rfl))) (by decide) (t := .int) (t' := .byte) (by decide) (by decide)))
  have F112 := F101_6.other W105 (Or.inr (slot_ne (Or.inr (hw _ (List.mem_of_getElem? (i := 35) rfl))) (Or.inr (hw _ (List.mem_of_getElem? (i := 27) rfl))) (by decide) (t := .int) (t' := .byte) (by decide) (by decide)))
  have F113 := F101_7.other W105 (Or.inr (slot_ne (Or.inr (hw _ (List.mem_of_getElem? (i := 37) rfl))) (Or.inr (hw _ (List.mem_of_getElem? (i := 27) rfl))) (by decide) (t := (.array .int)) (t' := .byte) (by decide) (by decide)))
  have Z114 : n0 ≤ h105.size := Nat.le_trans Z103 (Keep.of_wr W105).1
  have K115 : Keep h0 h105 [r0] := K104.wr W105 (Or.inl (List.mem_of_getElem? (i := 0) rfl))
  have N116 := Fr.snoc X105 N101 g_r0
  obtain ⟨T117, h117, X117, e117, W117, st117⟩ := putFN X105 hx hZ hown (hw _ (List.mem_of_getElem? (i := 28) rfl)) Via.refl e105 F109 F106 (Or.inr ⟨(hw _ (List.mem_of_getElem? (i := 29) rfl)), rfl, hnm⟩) (hw _ (List.mem_of_getElem? (i := 3) rfl)) (ty := .byte) (v' := (.int (nar .byte p3))) (by decide) rfl (fits_nar_byte _) (g := (mkF m 12 #[.val (.ref r0), .val (.ref r1), .val (.int p2), .val (.int p3), .val (.ref r4), .val (.int p5), .val (.int p6), .val (.ref r7)] [(.int p3), (.ref r0)])) rfl rfl (hb hby d1_12)
  have F118 := F106.wr W117
  have F119 := F107.other W117 (Or.inr (slot_ne (Or.inr (hw _ (List.mem_of_getElem? (i := 25) rfl))) (Or.inr (hw _ (List.mem_of_getElem? (i := 29) rfl))) (by decide) (t := (.object "java/lang/String")) (t' := .byte) (by decide) (by decide)))
  have F120 := F108.other W117 (Or.inr (slot_ne (Or.inr (hw _ (List.mem_of_getElem? (i := 27) rfl))) (Or.inr (hw _ (List.mem_of_getElem? (i := 29) rfl))) (by decide) (t := .byte) (t' := .byte) (by decide) (by decide)))
  have F121 := F109.same W117
  have F122 := F110.other W117 (Or.inr (slot_ne (Or.inr (hw _ (List.mem_of_getElem? (i := 31) rfl))) (Or.inr (hw _ (List.mem_of_getElem? (i := 29) rfl))) (by decide) (t := (.array .byte)) (t' := .byte) (by decide) (by decide)))
  have F123 := F111.other W117 (Or.inr (slot_ne (Or.inr (hw _ (List.mem_of_getElem? (i := 33) rfl))) (Or.inr (hw _ (List.mem_of_getElem? (i := 29) rfl))) (by decide) (t := .int) (t' := .byte) (by decide) (by decide)))
  have F124 := F112.other W117 (Or.inr (slot_ne (Or.inr (hw _ (List.mem_of_getElem? (i := 35) rfl))) (Or.inr (hw _ (List.mem_of_getElem? (i := 29) rfl))) (by decide) (t := .int) (t' := .byte) (by decide) (by decide)))
  have F125 := F113.other W117 (Or.inr (slot_ne (Or.inr (hw _ (List.mem_of_getElem? (i := 37) rfl))) (Or.inr (hw _ (List.mem_of_getElem? (i := 29) rfl))) (by decide) (t := (.array .int)) (t' := .byte) (by decide) (by decide)))
  have Z126 : n0 ≤ h117.size := Nat.le_trans Z114 (Keep.of_wr W117).1
  have K127 : Keep h0 h117 [r0] := K115.wr W117 (Or.inl (List.mem_of_getElem? (i := 0) rfl))
  have N128 := Fr.snoc X117 N116 g_r0
  obtain ⟨T129, h129, X129, e129, W129, st129⟩ := putF X117 hx hZ hown (host := "") (Or.inl (hw _ (List.mem_of_getElem? (i := 30) rfl))) Via.refl e117 F122 F118 (Or.inr ⟨(hw _ (List.mem_of_getElem? (i := 31) rfl)), rfl, hnm⟩) (hw _ (List.mem_of_getElem? (i := 3) rfl)) (ty := (.array .byte)) (by decide) rfl rfl (g := (mkF m 18 #[.val (.ref r0), .val (.ref r1), .val (.int p2), .val (.int p3), .val (.ref r4), .val (.int p5), .val (.int p6), .val (.ref r7)] [(.ref r4), (.ref r0)])) rfl rfl (hb hby d1_18)
  have F130 := F118.wr W129
  have F131 := F119.other W129 (Or.inr (slot_ne (Or.inr (hw _ (List.mem_of_getElem? (i := 25) rfl))) (Or.inr (hw _ (List.mem_of_getElem? (i := 31) rfl))) (by decide) (t := (.object "java/lang/String")) (t' := (.array .byte)) (by decide) (by decide)))
  have F132 := F120.other W129 (Or.inr (slot_ne (Or.inr (hw _ (List.mem_of_getElem? (i := 27) rfl))) (Or.inr (hw _ (List.mem_of_getElem? (i := 31) rfl))) (by decide) (t := .byte) (t' := (.array .byte)) (by decide) (by decide)))
  have F133 := F121.other W129 (Or.inr (slot_ne (Or.inr (hw _ (List.mem_of_getElem? (i := 29) rfl))) (Or.inr (hw _ (List.mem_of_getElem? (i := 31) rfl))) (by decide) (t := .byte) (t' := (.array .byte)) (by decide) (by decide)))
  have F134 := F122.same W129
  have F135 := F123.other W129 (Or.inr (slot_ne (Or.inr (hw _ (List.mem_of_getElem? (i := 33) rfl))) (Or.inr (hw _ (List.mem_of_getElem? (i := 31) rfl))) (by decide) (t := .int) (t' := (.array .byte)) (by decide) (by decide)))
  have F136 := F124.other W129 (Or.inr (slot_ne (Or.inr (hw _ (List.mem_of_getElem? (i := 35) rfl))) (Or.inr (hw _ (List.mem_of_getElem? (i := 31) rfl))) (by decide) (t := .int) (t' := (.array .byte)) (by decide) (by decide)))
  have F137 := F125.other W129 (Or.inr (slot_ne (Or.inr (hw _ (List.mem_of_getElem? (i := 37) rfl))) (Or.inr (hw _ (List.mem_of_getElem? (i := 31) rfl))) (by decide) (t := (.array .int)) (t' := (.array .byte)) (by decide) (by decide)))
  have Z138 : n0 ≤ h129.size := Nat.le_trans Z126 (Keep.of_wr W129).1
  have K139 : Keep h0 h129 [r0] := K127.wr W129 (Or.inl (List.mem_of_getElem? (i := 0) rfl))
  have N140 := Fr.snoc X129 N128 g_r0
  obtain ⟨T141, h141, X141, e141, W141, st141⟩ := putF X129 hx hZ hown (host := "") (Or.inl (hw _ (List.mem_of_getElem? (i := 32) rfl))) Via.refl e129 F135 F130 (Or.inr ⟨(hw _ (List.mem_of_getElem? (i := 33) rfl)), rfl, hnm⟩) (hw _ (List.mem_of_getElem? (i := 3) rfl)) (ty := .int) (by decide) rfl rfl (g := (mkF m 24 #[.val (.ref r0), .val (.ref r1), .val (.int p2), .val (.int p3), .val (.ref r4), .val (.int p5), .val (.int p6), .val (.ref r7)] [(.int p5), (.ref r0)])) rfl rfl (hb hby d1_24)
  have F142 := F130.wr W141
  have F143 := F131.other W141 (Or.inr (slot_ne (Or.inr (hw _ (List.mem_of_getElem? (i := 25) rfl))) (Or.inr (hw _ (List.mem_of_getElem? (i := 33) rfl))) (by decide) (t := (.object "java/lang/String")) (t' := .int) (by decide) (by decide)))
  have F144 := F132.other W141 (Or.inr (slot_ne (Or.inr (hw _ (List.mem_of_getElem? (i := 27) rfl))) (Or.inr (hw _ (List.mem_of_getElem? (i := 33) rfl))) (by decide) (t := .byte) (t' := .int) (by decide) (by decide)))
  have F145 := F133.other W141 (Or.inr (slot_ne (Or.inr (hw _ (List.mem_of_getElem? (i := 29) rfl))) (Or.inr (hw _ (List.mem_of_getElem? (i := 33) rfl))) (by decide) (t := .byte) (t' := .int) (by decide) (by decide)))
  have F146 := F134.other W141 (Or.inr (slot_ne (Or.inr (hw _ (List.mem_of_getElem? (i := 31) rfl))) (Or.inr (hw _ (List.mem_of_getElem? (i := 33) rfl))) (by decide) (t := (.array .byte)) (t' := .int) (by decide) (by decide)))
  have F147 := F135.same W141
  have F148 := F136.other W141 (Or.inr (slot_ne (Or.inr (hw _ (List.mem_of_getElem? (i := 35) rfl))) (Or.inr (hw _ (List.mem_of_getElem? (i := 33) rfl))) (by decide) (t := .int) (t' := .int) (by decide) (by decide)))
  have F149 := F137.other W141 (Or.inr (slot_ne (Or.inr (hw _ (List.mem_of_getElem? (i := 37) rfl))) (Or.inr (hw _ (List.mem_of_getElem? (i := 33) rfl))) (by decide) (t := (.array .int)) (t' := .int) (by decide) (by decide)))
  have Z150 : n0 ≤ h141.size := Nat.le_trans Z138 (Keep.of_wr W141).1
  have K151 : Keep h0 h141 [r0] := K139.wr W141 (Or.inl (List.mem_of_getElem? (i := 0) rfl))
  have N152 := Fr.snoc X141 N140 g_r0
  obtain ⟨T153, h153, X153, e153, W153, st153⟩ := putF X141 hx hZ hown (host := "") (Or.inl (hw _ (List.mem_of_getElem? (i := 34) rfl))) Via.refl e141 F148 F142 (Or.inr ⟨(hw _ (List.mem_of_getElem? (i := 35) rfl)), rfl, hnm⟩) (hw _ (List.mem_of_getElem? (i := 3) rfl)) (ty := .int) (by decide) rfl rfl (g := (mkF m 30 #[.val (.ref r0), .val (.ref r1), .val (.int p2), .val (.int p3), .val (.ref r4), .val (.int p5), .val (.int p6), .val (.ref r7)] [(.int p6), (.ref r0)])) rfl rfl (hb hby d1_30)
  have F154 := F142.wr W153
  have F155 := F143.other W153 (Or.inr (slot_ne (Or.inr (hw _ (List.mem_of_getElem? (i := 25) rfl))) (Or.inr (hw _ (List.mem_of_getElem? (i := 35) rfl))) (by decide) (t := (.object "java/lang/String")) (t' := .int) (by decide) (by decide)))
  have F156 := F144.other W153 (Or.inr (slot_ne (Or.inr (hw _ (List.mem_of_getElem? (i := 27) rfl))) (Or.inr (hw _ (List.mem_of_getElem? (i := 35) rfl))) (by decide) (t := .byte) (t' := .int) (by decide) (by decide)))
  have F157 := F145.other W153 (Or.inr (slot_ne (Or.inr (hw _ (List.mem_of_getElem? (i := 29) rfl))) (Or.inr (hw _ (List.mem_of_getElem? (i := 35) rfl))) (by decide) (t := .byte) (t' := .int) (by decide) (by decide)))
  have F158 := F146.other W153 (Or.inr (slot_ne (Or.inr (hw _ (List.mem_of_getElem? (i := 31) rfl))) (Or.inr (hw _ (List.mem_of_getElem? (i := 35) rfl))) (by decide) (t := (.array .byte)) (t' := .int) (by decide) (by decide)))
  have F159 := F147.other W153 (Or.inr (slot_ne (Or.inr (hw _ (List.mem_of_getElem? (i := 33) rfl))) (Or.inr (hw _ (List.mem_of_getElem? (i := 35) rfl))) (by decide) (t := .int) (t' := .int) (by decide) (by decide)))
  have F160 := F148.same W153
  have F161 := F149.other W153 (Or.inr (slot_ne (Or.inr (hw _ (List.mem_of_getElem? (i := 37) rfl))) (Or.inr (hw _ (List.mem_of_getElem? (i := 35) rfl))) (by decide) (t := (.array .int)) (t' := .int) (by decide) (by decide)))
  have Z162 : n0 ≤ h153.size := Nat.le_trans Z150 (Keep.of_wr W153).1
  have K163 : Keep h0 h153 [r0] := K151.wr W153 (Or.inl (List.mem_of_getElem? (i := 0) rfl))
  have N164 := Fr.snoc X153 N152 g_r0
  obtain ⟨T165, h165, X165, e165, W165, st165⟩ := putF X153 hx hZ hown (host := "") (Or.inl (hw _ (List.mem_of_getElem? (i := 36) rfl))) Via.refl e153 F161 F154 (Or.inr ⟨(hw _ (List.mem_of_getElem? (i := 37) rfl)), rfl, hnm⟩) (hw _ (List.mem_of_getElem? (i := 3) rfl)) (ty := (.array .int)) (by decide) rfl rfl (g := (mkF m 36 #[.val (.ref r0), .val (.ref r1), .val (.int p2), .val (.int p3), .val (.ref r4), .val (.int p5), .val (.int p6), .val (.ref r7)] [(.ref r7), (.ref r0)])) rfl rfl (hb hby d1_36)
  have F166 := F154.wr W165
  have F167 := F155.other W165 (Or.inr (slot_ne (Or.inr (hw _ (List.mem_of_getElem? (i := 25) rfl))) (Or.inr (hw _ (List.mem_of_getElem? (i := 37) rfl))) (by decide) (t := (.object "java/lang/String")) (t' := (.array .int)) (by decide) (by decide)))
  have F168 := F156.other W165 (Or.inr (slot_ne (Or.inr (hw _ (List.mem_of_getElem? (i := 27) rfl))) (Or.inr (hw _ (List.mem_of_getElem? (i := 37) rfl))) (by decide) (t := .byte) (t' := (.array .int)) (by decide) (by decide)))
  have F169 := F157.other W165 (Or.inr (slot_ne (Or.inr (hw _ (List.mem_of_getElem? (i := 29) rfl))) (Or.inr (hw _ (List.mem_of_getElem? (i := 37) rfl))) (by decide) (t := .byte) (t' := (.array .int)) (by decide) (by decide)))
  have F170 := F158.other W165 (Or.inr (slot_ne (Or.inr (hw _ (List.mem_of_getElem? (i := 31) rfl))) (Or.inr (hw _ (List.mem_of_getElem? (i := 37) rfl))) (by decide) (t := (.array .byte)) (t' := (.array .int)) (by decide) (by decide)))
  have F171 := F159.other W165 (Or.inr (slot_ne (Or.inr (hw _ (List.mem_of_getElem? (i := 33) rfl))) (Or.inr (hw _ (List.mem_of_getElem? (i := 37) rfl))) (by decide) (t := .int) (t' := (.array .int)) (by decide) (by decide)))
  have F172 := F160.other W165 (Or.inr (slot_ne (Or.inr (hw _ (List.mem_of_getElem? (i := 35) rfl))) (Or.inr (hw _ (List.mem_of_getElem? (i := 37) rfl))) (by decide) (t := .int) (t' := (.array .int)) (by decide) (by decide)))
  have F173 := F161.same W165
  have Z174 : n0 ≤ h165.size := Nat.le_trans Z162 (Keep.of_wr W165).1
  have K175 : Keep h0 h165 [r0] := K163.wr W165 (Or.inl (List.mem_of_getElem? (i := 0) rfl))
  have N176 := Fr.snoc X165 N164 g_r0
  have hgo177 : ∀ t, Steps p.tables e below (T165.setTop (mkF m 39 #[.val (.ref r0), .val (.ref r1), .val (.int p2), .val (.int p3), .val (.ref r4), .val (.int p5), .val (.int p6), .val (.ref r7)] [])) t → Steps p.tables e below (s₁.setTop (mkF m 0 #[.val (.ref r0), .val (.ref r1), .val (.int p2), .val (.int p3), .val (.ref r4), .val (.int p5), .val (.int p6), .val (.ref r7)] [])) t := by
    intro t kt
    show Steps p.tables e below (s₁.setTop (mkF m 0 #[.val (.ref r0), .val (.ref r1), .val (.int p2), .val (.int p3), .val (.ref r4), .val (.int p5), .val (.int p6), .val (.ref r7)] [])) _
    refine XS.aloadN X0.here hx rfl (hb hby d1_0) rfl rfl ?_
    show Steps p.tables e below (s₁.setTop (mkF m 1 #[.val (.ref r0), .val (.ref r1), .val (.int p2), .val (.int p3), .val (.ref r4), .val (.int p5), .val (.int p6), .val (.ref r7)] [(.ref r0)])) _
    refine XS.aloadN X0.here hx rfl (hb hby d1_1) rfl rfl ?_
    show Steps p.tables e below (s₁.setTop (mkF m 2 #[.val (.ref r0), .val (.ref r1), .val (.int p2), .val (.int p3), .val (.ref r4), .val (.int p5), .val (.int p6), .val (.ref r7)] [(.ref r1), (.ref r0)])) _
    refine st101.trans ?_
    show Steps p.tables e below (T101.setTop (mkF m 5 #[.val (.ref r0), .val (.ref r1), .val (.int p2), .val (.int p3), .val (.ref r4), .val (.int p5), .val (.int p6), .val (.ref r7)] [])) _
    refine XS.aloadN X101.here hx rfl (hb hby d1_5) rfl rfl ?_
    show Steps p.tables e below (T101.setTop (mkF m 6 #[.val (.ref r0), .val (.ref r1), .val (.int p2), .val (.int p3), .val (.ref r4), .val (.int p5), .val (.int p6), .val (.ref r7)] [(.ref r0)])) _
    refine XS.iloadN X101.here hx rfl (hb hby d1_6) rfl ?_
    show Steps p.tables e below (T101.setTop (mkF m 7 #[.val (.ref r0), .val (.ref r1), .val (.int p2), .val (.int p3), .val (.ref r4), .val (.int p5), .val (.int p6), .val (.ref r7)] [(.int p2), (.ref r0)])) _
    refine st105 _ ?_
    show Steps p.tables e below (T105.setTop (mkF m 10 #[.val (.ref r0), .val (.ref r1), .val (.int p2), .val (.int p3), .val (.ref r4), .val (.int p5), .val (.int p6), .val (.ref r7)] [])) _
    refine XS.aloadN X105.here hx rfl (hb hby d1_10) rfl rfl ?_
    show Steps p.tables e below (T105.setTop (mkF m 11 #[.val (.ref r0), .val (.ref r1), .val (.int p2), .val (.int p3), .val (.ref r4), .val (.int p5), .val (.int p6), .val (.ref r7)] [(.ref r0)])) _
    refine XS.iloadN X105.here hx rfl (hb hby d1_11) rfl ?_
    show Steps p.tables e below (T105.setTop (mkF m 12 #[.val (.ref r0), .val (.ref r1), .val (.int p2), .val (.int p3), .val (.ref r4), .val (.int p5), .val (.int p6), .val (.ref r7)] [(.int p3), (.ref r0)])) _
    refine st117 _ ?_
    show Steps p.tables e below (T117.setTop (mkF m 15 #[.val (.ref r0), .val (.ref r1), .val (.int p2), .val (.int p3), .val (.ref r4), .val (.int p5), .val (.int p6), .val (.ref r7)] [])) _
    refine XS.aloadN X117.here hx rfl (hb hby d1_15) rfl rfl ?_
    show Steps p.tables e below (T117.setTop (mkF m 16 #[.val (.ref r0), .val (.ref r1), .val (.int p2), .val (.int p3), .val (.ref r4), .val (.int p5), .val (.int p6), .val (.ref r7)] [(.ref r0)])) _
    refine XS.aload X117.here hx rfl (hb hby d1_16) rfl rfl ?_
    show Steps p.tables e below (T117.setTop (mkF m 18 #[.val (.ref r0), .val (.ref r1), .val (.int p2), .val (.int p3), .val (.ref r4), .val (.int p5), .val (.int p6), .val (.ref r7)] [(.ref r4), (.ref r0)])) _
    refine st129 _ ?_
    show Steps p.tables e below (T129.setTop (mkF m 21 #[.val (.ref r0), .val (.ref r1), .val (.int p2), .val (.int p3), .val (.ref r4), .val (.int p5), .val (.int p6), .val (.ref r7)] [])) _
    refine XS.aloadN X129.here hx rfl (hb hby d1_21) rfl rfl ?_
    show Steps p.tables e below (T129.setTop (mkF m 22 #[.val (.ref r0), .val (.ref r1), .val (.int p2), .val (.int p3), .val (.ref r4), .val (.int p5), .val (.int p6), .val (.ref r7)] [(.ref r0)])) _
    refine XS.iload X129.here hx rfl (hb hby d1_22) rfl ?_
    show Steps p.tables e below (T129.setTop (mkF m 24 #[.val (.ref r0), .val (.ref r1), .val (.int p2), .val (.int p3), .val (.ref r4), .val (.int p5), .val (.int p6), .val (.ref r7)] [(.int p5), (.ref r0)])) _
    refine st141 _ ?_
    show Steps p.tables e below (T141.setTop (mkF m 27 #[.val (.ref r0), .val (.ref r1), .val (.int p2), .val (.int p3), .val (.ref r4), .val (.int p5), .val (.int p6), .val (.ref r7)] [])) _
    refine XS.aloadN X141.here hx rfl (hb hby d1_27) rfl rfl ?_
    show Steps p.tables e below (T141.setTop (mkF m 28 #[.val (.ref r0), .val (.ref r1), .val (.int p2), .val (.int p3), .val (.ref r4), .val (.int p5), .val (.int p6), .val (.ref r7)] [(.ref r0)])) _
    refine XS.iload X141.here hx rfl (hb hby d1_28) rfl ?_
    show Steps p.tables e below (T141.setTop (mkF m 30 #[.val (.ref r0), .val (.ref r1), .val (.int p2), .val (.int p3), .val (.ref r4), .val (.int p5), .val (.int p6), .val (.ref r7)] [(.int p6), (.ref r0)])) _
    refine st153 _ ?_
    show Steps p.tables e below (T153.setTop (mkF m 33 #[.val (.ref r0), .val (.ref r1), .val (.int p2), .val (.int p3), .val (.ref r4), .val (.int p5), .val (.int p6), .val (.ref r7)] [])) _
    refine XS.aloadN X153.here hx rfl (hb hby d1_33) rfl rfl ?_
    show Steps p.tables e below (T153.setTop (mkF m 34 #[.val (.ref r0), .val (.ref r1), .val (.int p2), .val (.int p3), .val (.ref r4), .val (.int p5), .val (.int p6), .val (.ref r7)] [(.ref r0)])) _
    refine XS.aload X153.here hx rfl (hb hby d1_34) rfl rfl ?_
    show Steps p.tables e below (T153.setTop (mkF m 36 #[.val (.ref r0), .val (.ref r1), .val (.int p2), .val (.int p3), .val (.ref r4), .val (.int p5), .val (.int p6), .val (.ref r7)] [(.ref r7), (.ref r0)])) _
    refine st165 _ ?_
    exact kt
  refine own_go hgo177 ?_
  exact own_retV X165 hx Bd.returns Bd.notSynchronized (hb hby d1_39) (by decide) (by decide) (by rw [e165]; exact ⟨(by rfl), N176, K175, F166, (by exact F167), (by exact F168), (by exact F169), (by exact F170), (by exact F171), (by exact F172), (by exact F173)⟩)
theorem d4_0 : decode prog_30_method_11_code 0 = .ok (.iload_n 1, 1) := by decide +kernel
theorem d4_1 : decode prog_30_method_11_code 1 = .ok (.iconst 1, 1) := by decide +kernel
theorem d4_2 : decode prog_30_method_11_code 2 = .ok (.iadd, 1) := by decide +kernel
theorem d4_3 : decode prog_30_method_11_code 3 = .ok (.aload_n 0, 1) := by decide +kernel
theorem d4_4 : decode prog_30_method_11_code 4 = .ok (.getfield 50, 3) := by decide +kernel
theorem d4_7 : decode prog_30_method_11_code 7 = .ok (.arraylength, 1) := by decide +kernel
theorem d4_8 : decode prog_30_method_11_code 8 = .ok (.if_icmp .ge 14, 3) := by decide +kernel
theorem d4_22 : decode prog_30_method_11_code 22 = .ok (.aload_n 0, 1) := by decide +kernel
theorem d4_23 : decode prog_30_method_11_code 23 = .ok (.getfield 47, 3) := by decide +kernel
theorem d4_26 : decode prog_30_method_11_code 26 = .ok (.ireturn, 1) := by decide +kernel
theorem ef_4_1_0 (m : MethodId) (r0 : Addr) (p1 : Int32) : entryFrame m #[(.ref r0), (.int p1)] 2 = mkF m 0 #[.val (.ref r0), .val (.int p1)] [] := by (first | (simp [entryFrame, mkF, argsToLocals, Value.category]; done) | rfl)
def Q4_1_0 (Z : State) (r0 : Addr) (p1 : Int32) (ra : Addr) (f : Nat → Int32) (w4 : Int32) (h0 : Heap) (n0 : Nat) (v : Option Value) (h : Heap) (L : List Loc) : Prop := v = some (.int w4) ∧ Fr n0 L ∧ h = h0
set_option maxRecDepth 65536 in
set_option maxHeartbeats 40000000 in
theorem rm4_1_0 (l : Launch) (Z : State) (a0 : Array Value) (hw : ∀ d ∈ tables_1, d.before a0 Z = true) (ws : List Jvm.Cond) (r0 : Addr) (p1 : Int32) (ra : Addr) (f : Nat → Int32) (w4 : Int32) (h0 : Heap) (n0 : Nat) (Z0 : n0 ≤ h0.size) (F_del : Fld Z h0 r0 "org/tagwright/core/DataField" "delimiters" "[I" (.ref ra)) (A_ra : own_AI Z h0 ra .int 1 f) (hp : p1 = (0 : Int32)) (F_to_r0 : Fld Z h0 r0 "org/tagwright/core/DataField" "to" "I" (.int w4)) :
    MetFree l (⟨"org/tagwright/core/DataField", "dataTo", "(I)I"⟩ : MethodName) (head1 (Jvm.Cond.code (⟨"org/tagwright/core/DataField", "dataTo", "(I)I"⟩ : MethodName) prog_30_method_11_code 2 (some .int) :: ws) ({ frames := 0, cells := 0, slots := 0, locals := 0 } : Room)) (fun a U => a = #[(.ref r0), (.int p1)] ∧ Z.Warmed39 U.vm ∧ U.heap = h0) (fun _ _ _ _ _ => True) (fun _ U o U' => ∃ v L, o = .returned v ∧ Q4_1_0 Z r0 p1 ra f w4 h0 n0 v U'.heap L ∧ FrameEnd U o U' L ({ frames := 0, cells := 0, slots := 0, locals := 0 } : Room).cells ({ frames := 0, cells := 0, slots := 0, locals := 0 } : Room).slots) := by
  refine MetFree.of_bodySF (plainFor_of_name pn2) hisR ?_
  intro p e s m args below meth c s₁ Bd hml0 hP hK
  obtain ⟨rfl, hZ, hh⟩ := hP
  have hx := Bd.exec
  have hby := Bd.bytes
  have hml : c.maxLocals = 2 := hml0
  have hown : s.vm.findClass "org/tagwright/core/DataField" = some m.cls := findClass_of_methodNamed Bd.named
  have hnm := (name_of_methodNamed Bd.named Bd.method).1
  have X0 : Stand p l e ({ frames := 0, cells := 0, slots := 0, locals := 0 } : Room) s m #[(.ref r0), (.int p1)] below meth c s₁ [] 0 0 := Stand.of_body Bd
  have e0 : s₁.heap = h0 := by rw [← hh, Bd.state]; rfl
  have N0 := Fr.nil n0
  have K0 : Keep h0 h0 [] := Keep.refl h0 _
  show own_Go p e below s (Q4_1_0 Z r0 p1 ra f w4 h0 n0) ({ frames := 0, cells := 0, slots := 0, locals := 0 } : Room).cells ({ frames := 0, cells := 0, slots := 0, locals := 0 } : Room).slots (s₁.setTop (entryFrame m #[(.ref r0), (.int p1)] 2))
  refine own_go (fun t k => castTop (ef_4_1_0 m r0 p1) k) ?_
  obtain ⟨T101, X101, e101, st101⟩ := getF X0 hx hZ hown (host := "") (Or.inl (hw _ (List.mem_of_getElem? (i := 36) rfl))) Via.refl e0 F_del (g := (mkF m 4 #[.val (.ref r0), .val (.int (0 : Int32))] [(.ref r0), (.int (1 : Int32))])) rfl rfl (hb hby d4_4)
  obtain ⟨T102, X102, e102, st102⟩ := getF X101 hx hZ hown (host := "") (Or.inl (hw _ (List.mem_of_getElem? (i := 34) rfl))) Via.refl e101 F_to_r0 (g := (mkF m 23 #[.val (.ref r0), .val (.int (0 : Int32))] [(.ref r0)])) rfl rfl (hb hby d4_23)
  have hgo103 : ∀ t, Steps p.tables e below (T102.setTop (mkF m 26 #[.val (.ref r0), .val (.int (0 : Int32))] [(.int w4)])) t → Steps p.tables e below (s₁.setTop (mkF m 0 #[.val (.ref r0), .val (.int p1)] [])) t := by
    intro t kt
    show Steps p.tables e below (s₁.setTop (mkF m 0 #[.val (.ref r0), .val (.int p1)] [])) _
    rw [hp]
    show Steps p.tables e below (s₁.setTop (mkF m 0 #[.val (.ref r0), .val (.int (0 : Int32))] [])) _
    refine XS.iloadN X0.here hx rfl (hb hby d4_0) rfl ?_
    show Steps p.tables e below (s₁.setTop (mkF m 1 #[.val (.ref r0), .val (.int (0 : Int32))] [(.int (0 : Int32))])) _
    refine XS.iconst X0.here hx rfl (hb hby d4_1) ?_
    show Steps p.tables e below (s₁.setTop (mkF m 2 #[.val (.ref r0), .val (.int (0 : Int32))] [(.int (1 : Int32)), (.int (0 : Int32))])) _
    refine XS.iadd X0.here hx rfl (hb hby d4_2) rfl ?_
    show Steps p.tables e below (s₁.setTop (mkF m 3 #[.val (.ref r0), .val (.int (0 : Int32))] [(.int (1 : Int32))])) _
    refine XS.aloadN X0.here hx rfl (hb hby d4_3) rfl rfl ?_
    show Steps p.tables e below (s₁.setTop (mkF m 4 #[.val (.ref r0), .val (.int (0 : Int32))] [(.ref r0), (.int (1 : Int32))])) _
    refine st101 _ ?_
    show Steps p.tables e below (T101.setTop (mkF m 7 #[.val (.ref r0), .val (.int (0 : Int32))] [(.ref ra), (.int (1 : Int32))])) _
    refine own_lenI X101 hx hZ e101 A_ra (g := (mkF m 7 #[.val (.ref r0), .val (.int (0 : Int32))] [(.ref ra), (.int (1 : Int32))])) rfl rfl (hb hby d4_7) _ ?_
    show Steps p.tables e below (T101.setTop (mkF m 8 #[.val (.ref r0), .val (.int (0 : Int32))] [(.int (1 : Int32)), (.int (1 : Int32))])) _
    refine XS.icmpYes X101.here hx rfl (pc0 := 8) (pc' := 22) rfl (hb hby d4_8) rfl (flt (by decide : ¬ ((1 : Int32) < (1 : Int32)))).2.1 (by decide) (by decide) ?_
    show Steps p.tables e below (T101.setTop (mkF m 22 #[.val (.ref r0), .val (.int (0 : Int32))] [])) _
    refine XS.aloadN X101.here hx rfl (hb hby d4_22) rfl rfl ?_
    show Steps p.tables e below (T101.setTop (mkF m 23 #[.val (.ref r0), .val (.int (0 : Int32))] [(.ref r0)])) _
    refine st102 _ ?_
    exact kt
  refine own_go hgo103 ?_
  exact own_retI X102 hx Bd.returns Bd.notSynchronized (hb hby d4_26) (by decide) (by decide) (by rw [e102]; exact ⟨(by rfl), N0, rfl⟩)
theorem d4_11 : decode prog_30_method_11_code 11 = .ok (.aload_n 0, 1) := by decide +kernel
theorem d4_12 : decode prog_30_method_11_code 12 = .ok (.getfield 50, 3) := by decide +kernel
theorem d4_15 : decode prog_30_method_11_code 15 = .ok (.iload_n 1, 1) := by decide +kernel
theorem d4_16 : decode prog_30_method_11_code 16 = .ok (.iconst 1, 1) := by decide +kernel
theorem d4_17 : decode prog_30_method_11_code 17 = .ok (.iadd, 1) := by decide +kernel
theorem d4_18 : decode prog_30_method_11_code 18 = .ok (.iaload, 1) := by decide +kernel
theorem d4_19 : decode prog_30_method_11_code 19 = .ok (.goto 7, 3) := by decide +kernel
theorem ef_4_2_0 (m : MethodId) (r0 : Addr) (p1 : Int32) : entryFrame m #[(.ref r0), (.int p1)] 2 = mkF m 0 #[.val (.ref r0), .val (.int p1)] [] := by (first | (simp [entryFrame, mkF, argsToLocals, Value.category]; done) | rfl)
def Q4_2_0 (Z : State) (r0 : Addr) (p1 : Int32) (ra : Addr) (f : Nat → Int32) (h0 : Heap) (n0 : Nat) (v : Option Value) (h : Heap) (L : List Loc) : Prop := v = some (.int (f 1)) ∧ Fr n0 L ∧ h = h0
set_option maxRecDepth 65536 in
set_option maxHeartbeats 40000000 in
theorem rm4_2_0 (l : Launch) (Z : State) (a0 : Array Value) (hw : ∀ d ∈ tables_1, d.before a0 Z = true) (ws : List Jvm.Cond) (r0 : Addr) (p1 : Int32) (ra : Addr) (f : Nat → Int32) (h0 : Heap) (n0 : Nat) (Z0 : n0 ≤ h0.size) (F_del : Fld Z h0 r0 "org/tagwright/core/DataField" "delimiters" "[I" (.ref ra)) (A_ra : own_AI Z h0 ra .int 2 f) (hp : p1 = (0 : Int32)) :
    MetFree l (⟨"org/tagwright/core/DataField", "dataTo", "(I)I"⟩ : MethodName) (head1 (Jvm.Cond.code (⟨"org/tagwright/core/DataField", "dataTo", "(I)I"⟩ : MethodName) prog_30_method_11_code 2 (some .int) :: ws) ({ frames := 0, cells := 0, slots := 0, locals := 0 } : Room)) (fun a U => a = #[(.ref r0), (.int p1)] ∧ Z.Warmed39 U.vm ∧ U.heap = h0) (fun _ _ _ _ _ => True) (fun _ U o U' => ∃ v L, o = .returned v ∧ Q4_2_0 Z r0 p1 ra f h0 n0 v U'.heap L ∧ FrameEnd U o U' L ({ frames := 0, cells := 0, slots := 0, locals := 0 } : Room).cells ({ frames := 0, cells := 0, slots := 0, locals := 0 } : Room).slots) := by
  refine MetFree.of_bodySF (plainFor_of_name pn2) hisR ?_
  intro p e s m args below meth c s₁ Bd hml0 hP hK
  obtain ⟨rfl, hZ, hh⟩ := hP
  have hx := Bd.exec
  have hby := Bd.bytes
  have hml : c.maxLocals = 2 := hml0
  have hown : s.vm.findClass "org/tagwright/core/DataField" = some m.cls := findClass_of_methodNamed Bd.named
  have hnm := (name_of_methodNamed Bd.named Bd.method).1
  have X0 : Stand p l e ({ frames := 0, cells := 0, slots := 0, locals := 0 } : Room) s m #[(.ref r0), (.int p1)] below meth c s₁ [] 0 0 := Stand.of_body Bd
  have e0 : s₁.heap = h0 := by rw [← hh, Bd.state]; rfl
  have N0 := Fr.nil n0
  have K0 : Keep h0 h0 [] := Keep.refl h0 _
  show own_Go p e below s (Q4_2_0 Z r0 p1 ra f h0 n0) ({ frames := 0, cells := 0, slots := 0, locals := 0 } : Room).cells ({ frames := 0, cells := 0, slots := 0, locals := 0 } : Room).slots (s₁.setTop (entryFrame m #[(.ref r0), (.int p1)] 2))
  refine own_go (fun t k => castTop (ef_4_2_0 m r0 p1) k) ?_
  obtain ⟨T101, X101, e101, st101⟩ := getF X0 hx hZ hown (host := "") (Or.inl (hw _ (List.mem_of_getElem? (i := 36) rfl))) Via.refl e0 F_del (g := (mkF m 4 #[.val (.ref r0), .val (.int (0 : Int32))] [(.ref r0), (.int (1 : Int32))])) rfl rfl (hb hby d4_4)
  obtain ⟨T102, X102, e102, st102⟩ := getF X101 hx hZ hown (host := "") (Or.inl (hw _ (List.mem_of_getElem? (i := 36) rfl))) Via.refl e101 F_del (g := (mkF m 12 #[.val (.ref r0), .val (.int (0 : Int32))] [(.ref r0)])) rfl rfl (hb hby d4_12)
  have hin18_103 : ¬ (1 : Int32) < 0 ∧ (1 : Int32).toNatClampNeg < 2 := by decide
  obtain ⟨v1, hv1⟩ : ∃ z : Int32, z = (f 1) := ⟨_, rfl⟩
  have hgo104 : ∀ t, Steps p.tables e below (T102.setTop (mkF m 26 #[.val (.ref r0), .val (.int (0 : Int32))] [(.int v1)])) t → Steps p.tables e below (s₁.setTop (mkF m 0 #[.val (.ref r0), .val (.int p1)] [])) t := by
    intro t kt
    show Steps p.tables e below (s₁.setTop (mkF m 0 #[.val (.ref r0), .val (.int p1)] [])) _
    rw [hp]
    show Steps p.tables e below (s₁.setTop (mkF m 0 #[.val (.ref r0), .val (.int (0 : Int32))] [])) _
    refine XS.iloadN X0.here hx rfl (hb hby d4_0) rfl ?_
    show Steps p.tables e below (s₁.setTop (mkF m 1 #[.val (.ref r0), .val (.int (0 : Int32))] [(.int (0 : Int32))])) _
    refine XS.iconst X0.here hx rfl (hb hby d4_1) ?_
    show Steps p.tables e below (s₁.setTop (mkF m 2 #[.val (.ref r0), .val (.int (0 : Int32))] [(.int (1 : Int32)), (.int (0 : Int32))])) _
    refine XS.iadd X0.here hx rfl (hb hby d4_2) rfl ?_
    show Steps p.tables e below (s₁.setTop (mkF m 3 #[.val (.ref r0), .val (.int (0 : Int32))] [(.int (1 : Int32))])) _
    refine XS.aloadN X0.here hx rfl (hb hby d4_3) rfl rfl ?_
    show Steps p.tables e below (s₁.setTop (mkF m 4 #[.val (.ref r0), .val (.int (0 : Int32))] [(.ref r0), (.int (1 : Int32))])) _
    refine st101 _ ?_
    show Steps p.tables e below (T101.setTop (mkF m 7 #[.val (.ref r0), .val (.int (0 : Int32))] [(.ref ra), (.int (1 : Int32))])) _
    refine own_lenI X101 hx hZ e101 A_ra (g := (mkF m 7 #[.val (.ref r0), .val (.int (0 : Int32))] [(.ref ra), (.int (1 : Int32))])) rfl rfl (hb hby d4_7) _ ?_
    show Steps p.tables e below (T101.setTop (mkF m 8 #[.val (.ref r0), .val (.int (0 : Int32))] [(.int (2 : Int32)), (.int (1 : Int32))])) _
    refine XS.icmpNo X101.here hx rfl (hb hby d4_8) rfl (tlt (by decide : (1 : Int32) < (2 : Int32))).2.1 ?_
    show Steps p.tables e below (T101.setTop (mkF m 11 #[.val (.ref r0), .val (.int (0 : Int32))] [])) _
    refine XS.aloadN X101.here hx rfl (hb hby d4_11) rfl rfl ?_
    show Steps p.tables e below (T101.setTop (mkF m 12 #[.val (.ref r0), .val (.int (0 : Int32))] [(.ref r0)])) _
    refine st102 _ ?_
    show Steps p.tables e below (T102.setTop (mkF m 15 #[.val (.ref r0), .val (.int (0 : Int32))] [(.ref ra)])) _
    refine XS.iloadN X102.here hx rfl (hb hby d4_15) rfl ?_
    show Steps p.tables e below (T102.setTop (mkF m 16 #[.val (.ref r0), .val (.int (0 : Int32))] [(.int (0 : Int32)), (.ref ra)])) _
    refine XS.iconst X102.here hx rfl (hb hby d4_16) ?_
    show Steps p.tables e below (T102.setTop (mkF m 17 #[.val (.ref r0), .val (.int (0 : Int32))] [(.int (1 : Int32)), (.int (0 : Int32)), (.ref ra)])) _
    refine XS.iadd X102.here hx rfl (hb hby d4_17) rfl ?_
    show Steps p.tables e below (T102.setTop (mkF m 18 #[.val (.ref r0), .val (.int (0 : Int32))] [(.int (1 : Int32)), (.ref ra)])) _
    refine own_ldI X102 hx hZ e102 A_ra (j := (1 : Int32)) hin18_103 (g := (mkF m 18 #[.val (.ref r0), .val (.int (0 : Int32))] [(.int (1 : Int32)), (.ref ra)])) rfl rfl (hb hby d4_18) _ ?_
    show Steps p.tables e below (T102.setTop (mkF m 19 #[.val (.ref r0), .val (.int (0 : Int32))] [(.int (f 1))])) _
    refine XS.goto X102.here hx rfl (pc0 := 19) (pc' := 26) rfl (hb hby d4_19) (by decide) (by decide) ?_
    rw [← hv1]
    exact kt
  refine own_go hgo104 ?_
  exact own_retI X102 hx Bd.returns Bd.notSynchronized (hb hby d4_26) (by decide) (by decide) (by rw [e102]; exact ⟨(by subst hv1; rfl), N0, rfl⟩)
theorem ef_4_2_1 (m : MethodId) (r0 : Addr) (p1 : Int32) : entryFrame m #[(.ref r0), (.int p1)] 2 = mkF m 0 #[.val (.ref r0), .val (.int p1)] [] := by (first | (simp [entryFrame, mkF, argsToLocals, Value.category]; done) | rfl)
def Q4_2_1 (Z : State) (r0 : Addr) (p1 : Int32) (ra : Addr) (f : Nat → Int32) (w4 : Int32) (h0 : Heap) (n0 : Nat) (v : Option Value) (h : Heap) (L : List Loc) : Prop := v = some (.int w4) ∧ Fr n0 L ∧ h = h0
set_option maxRecDepth 65536 in
set_option maxHeartbeats 40000000 in
theorem rm4_2_1 (l : Launch) (Z : State) (a0 : Array Value) (hw : ∀ d ∈ tables_1, d.before a0 Z = true) (ws : List Jvm.Cond) (r0 : Addr) (p1 : Int32) (ra : Addr) (f : Nat → Int32) (w4 : Int32) (h0 : Heap) (n0 : Nat) (Z0 : n0 ≤ h0.size) (F_del : Fld Z h0 r0 "org/tagwright/core/DataField" "delimiters" "[I" (.ref ra)) (A_ra : own_AI Z h0 ra .int 2 f) (hp : p1 = (1 : Int32)) (F_to_r0 : Fld Z h0 r0 "org/tagwright/core/DataField" "to" "I" (.int w4)) :
    MetFree l (⟨"org/tagwright/core/DataField", "dataTo", "(I)I"⟩ : MethodName) (head1 (Jvm.Cond.code (⟨"org/tagwright/core/DataField", "dataTo", "(I)I"⟩ : MethodName) prog_30_method_11_code 2 (some .int) :: ws) ({ frames := 0, cells := 0, slots := 0, locals := 0 } : Room)) (fun a U => a = #[(.ref r0), (.int p1)] ∧ Z.Warmed39 U.vm ∧ U.heap = h0) (fun _ _ _ _ _ => True) (fun _ U o U' => ∃ v L, o = .returned v ∧ Q4_2_1 Z r0 p1 ra f w4 h0 n0 v U'.heap L ∧ FrameEnd U o U' L ({ frames := 0, cells := 0, slots := 0, locals := 0 } : Room).cells ({ frames := 0, cells := 0, slots := 0, locals := 0 } : Room).slots) := by
  refine MetFree.of_bodySF (plainFor_of_name pn2) hisR ?_
  intro p e s m args below meth c s₁ Bd hml0 hP hK
  obtain ⟨rfl, hZ, hh⟩ := hP
  have hx := Bd.exec
  have hby := Bd.bytes
  have hml : c.maxLocals = 2 := hml0
  have hown : s.vm.findClass "org/tagwright/core/DataField" = some m.cls := findClass_of_methodNamed Bd.named
  have hnm := (name_of_methodNamed Bd.named Bd.method).1
  have X0 : Stand p l e ({ frames := 0, cells := 0, slots := 0, locals := 0 } : Room) s m #[(.ref r0), (.int p1)] below meth c s₁ [] 0 0 := Stand.of_body Bd
  have e0 : s₁.heap = h0 := by rw [← hh, Bd.state]; rfl
  have N0 := Fr.nil n0
  have K0 : Keep h0 h0 [] := Keep.refl h0 _
  show own_Go p e below s (Q4_2_1 Z r0 p1 ra f w4 h0 n0) ({ frames := 0, cells := 0, slots := 0, locals := 0 } : Room).cells ({ frames := 0, cells := 0, slots := 0, locals := 0 } : Room).slots (s₁.setTop (entryFrame m #[(.ref r0), (.int p1)] 2))
  refine own_go (fun t k => castTop (ef_4_2_1 m r0 p1) k) ?_
  obtain ⟨T101, X101, e101, st101⟩ := getF X0 hx hZ hown (host := "") (Or.inl (hw _ (List.mem_of_getElem? (i := 36) rfl))) Via.refl e0 F_del (g := (mkF m 4 #[.val (.ref r0), .val (.int (1 : Int32))] [(.ref r0), (.int (2 : Int32))])) rfl rfl (hb hby d4_4)
  obtain ⟨T102, X102, e102, st102⟩ := getF X101 hx hZ hown (host := "") (Or.inl (hw _ (List.mem_of_getElem? (i := 34) rfl))) Via.refl e101 F_to_r0 (g := (mkF m 23 #[.val (.ref r0), .val (.int (1 : Int32))] [(.ref r0)])) rfl rfl (hb hby d4_23)
  have hgo103 : ∀ t, Steps p.tables e below (T102.setTop (mkF m 26 #[.val (.ref r0), .val (.int (1 : Int32))] [(.int w4)])) t → Steps p.tables e below (s₁.setTop (mkF m 0 #[.val (.ref r0), .val (.int p1)] [])) t := by
    intro t kt
    show Steps p.tables e below (s₁.setTop (mkF m 0 #[.val (.ref r0), .val (.int p1)] [])) _
    rw [hp]
    show Steps p.tables e below (s₁.setTop (mkF m 0 #[.val (.ref r0), .val (.int (1 : Int32))] [])) _
    refine XS.iloadN X0.here hx rfl (hb hby d4_0) rfl ?_
    show Steps p.tables e below (s₁.setTop (mkF m 1 #[.val (.ref r0), .val (.int (1 : Int32))] [(.int (1 : Int32))])) _
    refine XS.iconst X0.here hx rfl (hb hby d4_1) ?_
    show Steps p.tables e below (s₁.setTop (mkF m 2 #[.val (.ref r0), .val (.int (1 : Int32))] [(.int (1 : Int32)), (.int (1 : Int32))])) _
    refine XS.iadd X0.here hx rfl (hb hby d4_2) rfl ?_
    show Steps p.tables e below (s₁.setTop (mkF m 3 #[.val (.ref r0), .val (.int (1 : Int32))] [(.int (2 : Int32))])) _
    refine XS.aloadN X0.here hx rfl (hb hby d4_3) rfl rfl ?_
    show Steps p.tables e below (s₁.setTop (mkF m 4 #[.val (.ref r0), .val (.int (1 : Int32))] [(.ref r0), (.int (2 : Int32))])) _
    refine st101 _ ?_
    show Steps p.tables e below (T101.setTop (mkF m 7 #[.val (.ref r0), .val (.int (1 : Int32))] [(.ref ra), (.int (2 : Int32))])) _
    refine own_lenI X101 hx hZ e101 A_ra (g := (mkF m 7 #[.val (.ref r0), .val (.int (1 : Int32))] [(.ref ra), (.int (2 : Int32))])) rfl rfl (hb hby d4_7) _ ?_
    show Steps p.tables e below (T101.setTop (mkF m 8 #[.val (.ref r0), .val (.int (1 : Int32))] [(.int (2 : Int32)), (.int (2 : Int32))])) _
    refine XS.icmpYes X101.here hx rfl (pc0 := 8) (pc' := 22) rfl (hb hby d4_8) rfl (flt (by decide : ¬ ((2 : Int32) < (2 : Int32)))).2.1 (by decide) (by decide) ?_
    show Steps p.tables e below (T101.setTop (mkF m 22 #[.val (.ref r0), .val (.int (1 : Int32))] [])) _
    refine XS.aloadN X101.here hx rfl (hb hby d4_22) rfl rfl ?_
    show Steps p.tables e below (T101.setTop (mkF m 23 #[.val (.ref r0), .val (.int (1 : Int32))] [(.ref r0)])) _
    refine st102 _ ?_
    exact kt
  refine own_go hgo103 ?_
  exact own_retI X102 hx Bd.returns Bd.notSynchronized (hb hby d4_26) (by decide) (by decide) (by rw [e102]; exact ⟨(by rfl), N0, rfl⟩)
theorem ef_4_3_0 (m : MethodId) (r0 : Addr) (p1 : Int32) : entryFrame m #[(.ref r0), (.int p1)] 2 = mkF m 0 #[.val (.ref r0), .val (.int p1)] [] := by (first | (simp [entryFrame, mkF, argsToLocals, Value.category]; done) | rfl)
def Q4_3_0 (Z : State) (r0 : Addr) (p1 : Int32) (ra : Addr) (f : Nat → Int32) (h0 : Heap) (n0 : Nat) (v : Option Value) (h : Heap) (L : List Loc) : Prop := v = some (.int (f 1)) ∧ Fr n0 L ∧ h = h0
set_option maxRecDepth 65536 in
set_option maxHeartbeats 40000000 in
theorem rm4_3_0 (l : Launch) (Z : State) (a0 : Array Value) (hw : ∀ d ∈ tables_1, d.before a0 Z = true) (ws : List Jvm.Cond) (r0 : Addr) (p1 : Int32) (ra : Addr) (f : Nat → Int32) (h0 : Heap) (n0 : Nat) (Z0 : n0 ≤ h0.size) (F_del : Fld Z h0 r0 "org/tagwright/core/DataField" "delimiters" "[I" (.ref ra)) (A_ra : own_AI Z h0 ra .int 3 f) (hp : p1 = (0 : Int32)) :
    MetFree l (⟨"org/tagwright/core/DataField", "dataTo", "(I)I"⟩ : MethodName) (head1 (Jvm.Cond.code (⟨"org/tagwright/core/DataField", "dataTo", "(I)I"⟩ : MethodName) prog_30_method_11_code 2 (some .int) :: ws) ({ frames := 0, cells := 0, slots := 0, locals := 0 } : Room)) (fun a U => a = #[(.ref r0), (.int p1)] ∧ Z.Warmed39 U.vm ∧ U.heap = h0) (fun _ _ _ _ _ => True) (fun _ U o U' => ∃ v L, o = .returned v ∧ Q4_3_0 Z r0 p1 ra f h0 n0 v U'.heap L ∧ FrameEnd U o U' L ({ frames := 0, cells := 0, slots := 0, locals := 0 } : Room).cells ({ frames := 0, cells := 0, slots := 0, locals := 0 } : Room).slots) := by
  refine MetFree.of_bodySF (plainFor_of_name pn2) hisR ?_
  intro p e s m args below meth c s₁ Bd hml0 hP hK
  obtain ⟨rfl, hZ, hh⟩ := hP
  have hx := Bd.exec
  have hby := Bd.bytes
  have hml : c.maxLocals = 2 := hml0
  have hown : s.vm.findClass "org/tagwright/core/DataField" = some m.cls := findClass_of_methodNamed Bd.named
  have hnm := (name_of_methodNamed Bd.named Bd.method).1
  have X0 : Stand p l e ({ frames := 0, cells := 0, slots := 0, locals := 0 } : Room) s m #[(.ref r0), (.int p1)] below meth c s₁ [] 0 0 := Stand.of_body Bd
  have e0 : s₁.heap = h0 := by rw [← hh, Bd.state]; rfl
  have N0 := Fr.nil n0
  have K0 : Keep h0 h0 [] := Keep.refl h0 _
  show own_Go p e below s (Q4_3_0 Z r0 p1 ra f h0 n0) ({ frames := 0, cells := 0, slots := 0, locals := 0 } : Room).cells ({ frames := 0, cells := 0, slots := 0, locals := 0 } : Room).slots (s₁.setTop (entryFrame m #[(.ref r0), (.int p1)] 2))
  refine own_go (fun t k => castTop (ef_4_3_0 m r0 p1) k) ?_
  obtain ⟨T101, X101, e101, st101⟩ := getF X0 hx hZ hown (host := "") (Or.inl (hw _ (List.mem_of_getElem? (i := 36) rfl))) Via.refl e0 F_del (g := (mkF m 4 #[.val (.ref r0), .val (.int (0 : Int32))] [(.ref r0), (.int (1 : Int32))])) rfl rfl (hb hby d4_4)
  obtain ⟨T102, X102, e102, st102⟩ := getF X101 hx hZ hown (host := "") (Or.inl (hw _ (List.mem_of_getElem? (i := 36) rfl))) Via.refl e101 F_del (g := (mkF m 12 #[.val (.ref r0), .val (.int (0 : Int32))] [(.ref r0)])) rfl rfl (hb hby d4_12)
  have hin18_103 : ¬ (1 : Int32) < 0 ∧ (1 : Int32).toNatClampNeg < 3 := by decide
  obtain ⟨v1, hv1⟩ : ∃ z : Int32, z = (f 1) := ⟨_, rfl⟩
  have hgo104 : ∀ t, Steps p.tables e below (T102.setTop (mkF m 26 #[.val (.ref r0), .val (.int (0 : Int32))] [(.int v1)])) t → Steps p.tables e below (s₁.setTop (mkF m 0 #[.val (.ref r0), .val (.int p1)] [])) t := by
    intro t kt
    show Steps p.tables e below (s₁.setTop (mkF m 0 #[.val (.ref r0), .val (.int p1)] [])) _
    rw [hp]
    show Steps p.tables e below (s₁.setTop (mkF m 0 #[.val (.ref r0), .val (.int (0 : Int32))] [])) _
    refine XS.iloadN X0.here hx rfl (hb hby d4_0) rfl ?_
    show Steps p.tables e below (s₁.setTop (mkF m 1 #[.val (.ref r0), .val (.int (0 : Int32))] [(.int (0 : Int32))])) _
    refine XS.iconst X0.here hx rfl (hb hby d4_1) ?_
    show Steps p.tables e below (s₁.setTop (mkF m 2 #[.val (.ref r0), .val (.int (0 : Int32))] [(.int (1 : Int32)), (.int (0 : Int32))])) _
    refine XS.iadd X0.here hx rfl (hb hby d4_2) rfl ?_
    show Steps p.tables e below (s₁.setTop (mkF m 3 #[.val (.ref r0), .val (.int (0 : Int32))] [(.int (1 : Int32))])) _
    refine XS.aloadN X0.here hx rfl (hb hby d4_3) rfl rfl ?_
    show Steps p.tables e below (s₁.setTop (mkF m 4 #[.val (.ref r0), .val (.int (0 : Int32))] [(.ref r0), (.int (1 : Int32))])) _
    refine st101 _ ?_
    show Steps p.tables e below (T101.setTop (mkF m 7 #[.val (.ref r0), .val (.int (0 : Int32))] [(.ref ra), (.int (1 : Int32))])) _
    refine own_lenI X101 hx hZ e101 A_ra (g := (mkF m 7 #[.val (.ref r0), .val (.int (0 : Int32))] [(.ref ra), (.int (1 : Int32))])) rfl rfl (hb hby d4_7) _ ?_
    show Steps p.tables e below (T101.setTop (mkF m 8 #[.val (.ref r0), .val (.int (0 : Int32))] [(.int (3 : Int32)), (.int (1 : Int32))])) _
    refine XS.icmpNo X101.here hx rfl (hb hby d4_8) rfl (tlt (by decide : (1 : Int32) < (3 : Int32))).2.1 ?_
    show Steps p.tables e below (T101.setTop (mkF m 11 #[.val (.ref r0), .val (.int (0 : Int32))] [])) _
    refine XS.aloadN X101.here hx rfl (hb hby d4_11) rfl rfl ?_
    show Steps p.tables e below (T101.setTop (mkF m 12 #[.val (.ref r0), .val (.int (0 : Int32))] [(.ref r0)])) _
    refine st102 _ ?_
    show Steps p.tables e below (T102.setTop (mkF m 15 #[.val (.ref r0), .val (.int (0 : Int32))] [(.ref ra)])) _
    refine XS.iloadN X102.here hx rfl (hb hby d4_15) rfl ?_
    show Steps p.tables e below (T102.setTop (mkF m 16 #[.val (.ref r0), .val (.int (0 : Int32))] [(.int (0 : Int32)), (.ref ra)])) _
    refine XS.iconst X102.here hx rfl (hb hby d4_16) ?_
    show Steps p.tables e below (T102.setTop (mkF m 17 #[.val (.ref r0), .val (.int (0 : Int32))] [(.int (1 : Int32)), (.int (0 : Int32)), (.ref ra)])) _
    refine XS.iadd X102.here hx rfl (hb hby d4_17) rfl ?_
    show Steps p.tables e below (T102.setTop (mkF m 18 #[.val (.ref r0), .val (.int (0 : Int32))] [(.int (1 : Int32)), (.ref ra)])) _
    refine own_ldI X102 hx hZ e102 A_ra (j := (1 : Int32)) hin18_103 (g := (mkF m 18 #[.val (.ref r0), .val (.int (0 : Int32))] [(.int (1 : Int32)), (.ref ra)])) rfl rfl (hb hby d4_18) _ ?_
    show Steps p.tables e below (T102.setTop (mkF m 19 #[.val (.ref r0), .val (.int (0 : Int32))] [(.int (f 1))])) _
    refine XS.goto X102.here hx rfl (pc0 := 19) (pc' := 26) rfl (hb hby d4_19) (by decide) (by decide) ?_
    rw [← hv1]
    exact kt
  refine own_go hgo104 ?_
  exact own_retI X102 hx Bd.returns Bd.notSynchronized (hb hby d4_26) (by decide) (by decide) (by rw [e102]; exact ⟨(by subst hv1; rfl), N0, rfl⟩)
theorem ef_4_3_1 (m : MethodId) (r0 : Addr) (p1 : Int32) : entryFrame m #[(.ref r0), (.int p1)] 2 = mkF m 0 #[.val (.ref r0), .val (.int p1)] [] := by (first | (simp [entryFrame, mkF, argsToLocals, Value.category]; done) | rfl)
def Q4_3_1 (Z : State) (r0 : Addr) (p1 : Int32) (ra : Addr) (f : Nat → Int32) (h0 : Heap) (n0 : Nat) (v : Option Value) (h : Heap) (L : List Loc) : Prop := v = some (.int (f 2)) ∧ Fr n0 L ∧ h = h0
set_option maxRecDepth 65536 in
set_option maxHeartbeats 40000000 in
theorem rm4_3_1 (l : Launch) (Z : State) (a0 : Array Value) (hw : ∀ d ∈ tables_1, d.before a0 Z = true) (ws : List Jvm.Cond) (r0 : Addr) (p1 : Int32) (ra : Addr) (f : Nat → Int32) (h0 : Heap) (n0 : Nat) (Z0 : n0 ≤ h0.size) (F_del : Fld Z h0 r0 "org/tagwright/core/DataField" "delimiters" "[I" (.ref ra)) (A_ra : own_AI Z h0 ra .int 3 f) (hp : p1 = (1 : Int32)) :
    MetFree l (⟨"org/tagwright/core/DataField", "dataTo", "(I)I"⟩ : MethodName) (head1 (Jvm.Cond.code (⟨"org/tagwright/core/DataField", "dataTo", "(I)I"⟩ : MethodName) prog_30_method_11_code 2 (some .int) :: ws) ({ frames := 0, cells := 0, slots := 0, locals := 0 } : Room)) (fun a U => a = #[(.ref r0), (.int p1)] ∧ Z.Warmed39 U.vm ∧ U.heap = h0) (fun _ _ _ _ _ => True) (fun _ U o U' => ∃ v L, o = .returned v ∧ Q4_3_1 Z r0 p1 ra f h0 n0 v U'.heap L ∧ FrameEnd U o U' L ({ frames := 0, cells := 0, slots := 0, locals := 0 } : Room).cells ({ frames := 0, cells := 0, slots := 0, locals := 0 } : Room).slots) := by
  refine MetFree.of_bodySF (plainFor_of_name pn2) hisR ?_
  intro p e s m args below meth c s₁ Bd hml0 hP hK
  obtain ⟨rfl, hZ, hh⟩ := hP
  have hx := Bd.exec
  have hby := Bd.bytes
  have hml : c.maxLocals = 2 := hml0
  have hown : s.vm.findClass "org/tagwright/core/DataField" = some m.cls := findClass_of_methodNamed Bd.named
  have hnm := (name_of_methodNamed Bd.named Bd.method).1
  have X0 : Stand p l e ({ frames := 0, cells := 0, slots := 0, locals := 0 } : Room) s m #[(.ref r0), (.int p1)] below meth c s₁ [] 0 0 := Stand.of_body Bd
  have e0 : s₁.heap = h0 := by rw [← hh, Bd.state]; rfl
  have N0 := Fr.nil n0
  have K0 : Keep h0 h0 [] := Keep.refl h0 _
  show own_Go p e below s (Q4_3_1 Z r0 p1 ra f h0 n0) ({ frames := 0, cells := 0, slots := 0, locals := 0 } : Room).cells ({ frames := 0, cells := 0, slots := 0, locals := 0 } : Room).slots (s₁.setTop (entryFrame m #[(.ref r0), (.int p1)] 2))
  refine own_go (fun t k => castTop (ef_4_3_1 m r0 p1) k) ?_
  obtain ⟨T101, X101, e101, st101⟩ := getF X0 hx hZ hown (host := "") (Or.inl (hw _ (List.mem_of_getElem? (i := 36) rfl))) Via.refl e0 F_del (g := (mkF m 4 #[.val (.ref r0), .val (.int (1 : Int32))] [(.ref r0), (.int (2 : Int32))])) rfl rfl (hb hby d4_4)
  obtain ⟨T102, X102, e102, st102⟩ := getF X101 hx hZ hown (host := "") (Or.inl (hw _ (List.mem_of_getElem? (i := 36) rfl))) Via.refl e101 F_del (g := (mkF m 12 #[.val (.ref r0), .val (.int (1 : Int32))] [(.ref r0)])) rfl rfl (hb hby d4_12)
  have hin18_103 : ¬ (2 : Int32) < 0 ∧ (2 : Int32).toNatClampNeg < 3 := by decide
  obtain ⟨v1, hv1⟩ : ∃ z : Int32, z = (f 2) := ⟨_, rfl⟩
  have hgo104 : ∀ t, Steps p.tables e below (T102.setTop (mkF m 26 #[.val (.ref r0), .val (.int (1 : Int32))] [(.int v1)])) t → Steps p.tables e below (s₁.setTop (mkF m 0 #[.val (.ref r0), .val (.int p1)] [])) t := by
    intro t kt
    show Steps p.tables e below (s₁.setTop (mkF m 0 #[.val (.ref r0), .val (.int p1)] [])) _
    rw [hp]
    show Steps p.tables e below (s₁.setTop (mkF m 0 #[.val (.ref r0), .val (.int (1 : Int32))] [])) _
    refine XS.iloadN X0.here hx rfl (hb hby d4_0) rfl ?_
    show Steps p.tables e below (s₁.setTop (mkF m 1 #[.val (.ref r0), .val (.int (1 : Int32))] [(.int (1 : Int32))])) _
    refine XS.iconst X0.here hx rfl (hb hby d4_1) ?_
    show Steps p.tables e below (s₁.setTop (mkF m 2 #[.val (.ref r0), .val (.int (1 : Int32))] [(.int (1 : Int32)), (.int (1 : Int32))])) _
    refine XS.iadd X0.here hx rfl (hb hby d4_2) rfl ?_
    show Steps p.tables e below (s₁.setTop (mkF m 3 #[.val (.ref r0), .val (.int (1 : Int32))] [(.int (2 : Int32))])) _
    refine XS.aloadN X0.here hx rfl (hb hby d4_3) rfl rfl ?_
    show Steps p.tables e below (s₁.setTop (mkF m 4 #[.val (.ref r0), .val (.int (1 : Int32))] [(.ref r0), (.int (2 : Int32))])) _
    refine st101 _ ?_
    show Steps p.tables e below (T101.setTop (mkF m 7 #[.val (.ref r0), .val (.int (1 : Int32))] [(.ref ra), (.int (2 : Int32))])) _
    refine own_lenI X101 hx hZ e101 A_ra (g := (mkF m 7 #[.val (.ref r0), .val (.int (1 : Int32))] [(.ref ra), (.int (2 : Int32))])) rfl rfl (hb hby d4_7) _ ?_
    show Steps p.tables e below (T101.setTop (mkF m 8 #[.val (.ref r0), .val (.int (1 : Int32))] [(.int (3 : Int32)), (.int (2 : Int32))])) _
    refine XS.icmpNo X101.here hx rfl (hb hby d4_8) rfl (tlt (by decide : (2 : Int32) < (3 : Int32))).2.1 ?_
    show Steps p.tables e below (T101.setTop (mkF m 11 #[.val (.ref r0), .val (.int (1 : Int32))] [])) _
    refine XS.aloadN X101.here hx rfl (hb hby d4_11) rfl rfl ?_
    show Steps p.tables e below (T101.setTop (mkF m 12 #[.val (.ref r0), .val (.int (1 : Int32))] [(.ref r0)])) _
    refine st102 _ ?_
    show Steps p.tables e below (T102.setTop (mkF m 15 #[.val (.ref r0), .val (.int (1 : Int32))] [(.ref ra)])) _
    refine XS.iloadN X102.here hx rfl (hb hby d4_15) rfl ?_
    show Steps p.tables e below (T102.setTop (mkF m 16 #[.val (.ref r0), .val (.int (1 : Int32))] [(.int (1 : Int32)), (.ref ra)])) _
    refine XS.iconst X102.here hx rfl (hb hby d4_16) ?_
    show Steps p.tables e below (T102.setTop (mkF m 17 #[.val (.ref r0), .val (.int (1 : Int32))] [(.int (1 : Int32)), (.int (1 : Int32)), (.ref ra)])) _
    refine XS.iadd X102.here hx rfl (hb hby d4_17) rfl ?_
    show Steps p.tables e below (T102.setTop (mkF m 18 #[.val (.ref r0), .val (.int (1 : Int32))] [(.int (2 : Int32)), (.ref ra)])) _
    refine own_ldI X102 hx hZ e102 A_ra (j := (2 : Int32)) hin18_103 (g := (mkF m 18 #[.val (.ref r0), .val (.int (1 : Int32))] [(.int (2 : Int32)), (.ref ra)])) rfl rfl (hb hby d4_18) _ ?_
    show Steps p.tables e below (T102.setTop (mkF m 19 #[.val (.ref r0), .val (.int (1 : Int32))] [(.int (f 2))])) _
    refine XS.goto X102.here hx rfl (pc0 := 19) (pc' := 26) rfl (hb hby d4_19) (by decide) (by decide) ?_
    rw [← hv1]
    exact kt
  refine own_go hgo104 ?_
  exact own_retI X102 hx Bd.returns Bd.notSynchronized (hb hby d4_26) (by decide) (by decide) (by rw [e102]; exact ⟨(by subst hv1; rfl), N0, rfl⟩)
theorem ef_4_3_2 (m : MethodId) (r0 : Addr) (p1 : Int32) : entryFrame m #[(.ref r0), (.int p1)] 2 = mkF m 0 #[.val (.ref r0), .val (.int p1)] [] := by (first | (simp [entryFrame, mkF, argsToLocals, Value.category]; done) | rfl)
def Q4_3_2 (Z : State) (r0 : Addr) (p1 : Int32) (ra : Addr) (f : Nat → Int32) (w4 : Int32) (h0 : Heap) (n0 : Nat) (v : Option Value) (h : Heap) (L : List Loc) : Prop := v = some (.int w4) ∧ Fr n0 L ∧ h = h0
set_option maxRecDepth 65536 in
set_option maxHeartbeats 40000000 in
theorem rm4_3_2 (l : Launch) (Z : State) (a0 : Array Value) (hw : ∀ d ∈ tables_1, d.before a0 Z = true) (ws : List Jvm.Cond) (r0 : Addr) (p1 : Int32) (ra : Addr) (f : Nat → Int32) (w4 : Int32) (h0 : Heap) (n0 : Nat) (Z0 : n0 ≤ h0.size) (F_del : Fld Z h0 r0 "org/tagwright/core/DataField" "delimiters" "[I" (.ref ra)) (A_ra : own_AI Z h0 ra .int 3 f) (hp : p1 = (2 : Int32)) (F_to_r0 : Fld Z h0 r0 "org/tagwright/core/DataField" "to" "I" (.int w4)) :
    MetFree l (⟨"org/tagwright/core/DataField", "dataTo", "(I)I"⟩ : MethodName) (head1 (Jvm.Cond.code (⟨"org/tagwright/core/DataField", "dataTo", "(I)I"⟩ : MethodName) prog_30_method_11_code 2 (some .int) :: ws) ({ frames := 0, cells := 0, slots := 0, locals := 0 } : Room)) (fun a U => a = #[(.ref r0), (.int p1)] ∧ Z.Warmed39 U.vm ∧ U.heap = h0) (fun _ _ _ _ _ => True) (fun _ U o U' => ∃ v L, o = .returned v ∧ Q4_3_2 Z r0 p1 ra f w4 h0 n0 v U'.heap L ∧ FrameEnd U o U' L ({ frames := 0, cells := 0, slots := 0, locals := 0 } : Room).cells ({ frames := 0, cells := 0, slots := 0, locals := 0 } : Room).slots) := by
  refine MetFree.of_bodySF (plainFor_of_name pn2) hisR ?_
  intro p e s m args below meth c s₁ Bd hml0 hP hK
  obtain ⟨rfl, hZ, hh⟩ := hP
  have hx := Bd.exec
  have hby := Bd.bytes
  have hml : c.maxLocals = 2 := hml0
  have hown : s.vm.findClass "org/tagwright/core/DataField" = some m.cls := findClass_of_methodNamed Bd.named
  have hnm := (name_of_methodNamed Bd.named Bd.method).1
  have X0 : Stand p l e ({ frames := 0, cells := 0, slots := 0, locals := 0 } : Room) s m #[(.ref r0), (.int p1)] below meth c s₁ [] 0 0 := Stand.of_body Bd
  have e0 : s₁.heap = h0 := by rw [← hh, Bd.state]; rfl
  have N0 := Fr.nil n0
  have K0 : Keep h0 h0 [] := Keep.refl h0 _
  show own_Go p e below s (Q4_3_2 Z r0 p1 ra f w4 h0 n0) ({ frames := 0, cells := 0, slots := 0, locals := 0 } : Room).cells ({ frames := 0, cells := 0, slots := 0, locals := 0 } : Room).slots (s₁.setTop (entryFrame m #[(.ref r0), (.int p1)] 2))
  refine own_go (fun t k => castTop (ef_4_3_2 m r0 p1) k) ?_
  obtain ⟨T101, X101, e101, st101⟩ := getF X0 hx hZ hown (host := "") (Or.inl (hw _ (List.mem_of_getElem? (i := 36) rfl))) Via.refl e0 F_del (g := (mkF m 4 #[.val (.ref r0), .val (.int (2 : Int32))] [(.ref r0), (.int (3 : Int32))])) rfl rfl (hb hby d4_4)
  obtain ⟨T102, X102, e102, st102⟩ := getF X101 hx hZ hown (host := "") (Or.inl (hw _ (List.mem_of_getElem? (i := 34) rfl))) Via.refl e101 F_to_r0 (g := (mkF m 23 #[.val (.ref r0), .val (.int (2 : Int32))] [(.ref r0)])) rfl rfl (hb hby d4_23)
  have hgo103 : ∀ t, Steps p.tables e below (T102.setTop (mkF m 26 #[.val (.ref r0), .val (.int (2 : Int32))] [(.int w4)])) t → Steps p.tables e below (s₁.setTop (mkF m 0 #[.val (.ref r0), .val (.int p1)] [])) t := by
    intro t kt
    show Steps p.tables e below (s₁.setTop (mkF m 0 #[.val (.ref r0), .val (.int p1)] [])) _
    rw [hp]
    show Steps p.tables e below (s₁.setTop (mkF m 0 #[.val (.ref r0), .val (.int (2 : Int32))] [])) _
    refine XS.iloadN X0.here hx rfl (hb hby d4_0) rfl ?_
    show Steps p.tables e below (s₁.setTop (mkF m 1 #[.val (.ref r0), .val (.int (2 : Int32))] [(.int (2 : Int32))])) _
    refine XS.iconst X0.here hx rfl (hb hby d4_1) ?_
    show Steps p.tables e below (s₁.setTop (mkF m 2 #[.val (.ref r0), .val (.int (2 : Int32))] [(.int (1 : Int32)), (.int (2 : Int32))])) _
    refine XS.iadd X0.here hx rfl (hb hby d4_2) rfl ?_
    show Steps p.tables e below (s₁.setTop (mkF m 3 #[.val (.ref r0), .val (.int (2 : Int32))] [(.int (3 : Int32))])) _
    refine XS.aloadN X0.here hx rfl (hb hby d4_3) rfl rfl ?_
    show Steps p.tables e below (s₁.setTop (mkF m 4 #[.val (.ref r0), .val (.int (2 : Int32))] [(.ref r0), (.int (3 : Int32))])) _
    refine st101 _ ?_
    show Steps p.tables e below (T101.setTop (mkF m 7 #[.val (.ref r0), .val (.int (2 : Int32))] [(.ref ra), (.int (3 : Int32))])) _
    refine own_lenI X101 hx hZ e101 A_ra (g := (mkF m 7 #[.val (.ref r0), .val (.int (2 : Int32))] [(.ref ra), (.int (3 : Int32))])) rfl rfl (hb hby d4_7) _ ?_
    show Steps p.tables e below (T101.setTop (mkF m 8 #[.val (.ref r0), .val (.int (2 : Int32))] [(.int (3 : Int32)), (.int (3 : Int32))])) _
    refine XS.icmpYes X101.here hx rfl (pc0 := 8) (pc' := 22) rfl (hb hby d4_8) rfl (flt (by decide : ¬ ((3 : Int32) < (3 : Int32)))).2.1 (by decide) (by decide) ?_
    show Steps p.tables e below (T101.setTop (mkF m 22 #[.val (.ref r0), .val (.int (2 : Int32))] [])) _
    refine XS.aloadN X101.here hx rfl (hb hby d4_22) rfl rfl ?_
    show Steps p.tables e below (T101.setTop (mkF m 23 #[.val (.ref r0), .val (.int (2 : Int32))] [(.ref r0)])) _
    refine st102 _ ?_
    exact kt
  refine own_go hgo103 ?_
  exact own_retI X102 hx Bd.returns Bd.notSynchronized (hb hby d4_26) (by decide) (by decide) (by rw [e102]; exact ⟨(by rfl), N0, rfl⟩)
theorem own_ti {x : Int32} (h : x.toBitVec.toNat < 2147483648) : x.toInt = (x.toBitVec.toNat : Int) := by
  show x.toBitVec.toInt = _
  rw [BitVec.toInt_eq_toNat_cond, if_pos (by omega)]
theorem own_tn {x : Int32} (h : 0 ≤ x.toInt) : x.toInt = (x.toBitVec.toNat : Int) ∧ x.toBitVec.toNat < 2147483648 := by
  have e : x.toInt = x.toBitVec.toInt := rfl
  have c := BitVec.toInt_eq_toNat_cond x.toBitVec
  have l := x.toBitVec.isLt
  rw [e] at h ⊢
  rw [c] at h ⊢
  split at h
  · rename_i q
    rw [if_pos q]; omega
  · omega
theorem own_andn (x y : Int32) : (x &&& y).toBitVec.toNat = x.toBitVec.toNat &&& y.toBitVec.toNat := by rw [Int32.toBitVec_and, BitVec.toNat_and]
theorem own_orn (x y : Int32) : (x ||| y).toBitVec.toNat = x.toBitVec.toNat ||| y.toBitVec.toNat := by rw [Int32.toBitVec_or, BitVec.toNat_or]
theorem own_shln {x k : Int32} {n : Nat} (hk : (k.toBitVec.smod 32).toNat = n) (h : x.toBitVec.toNat * 2 ^ n < 2 ^ 32) : (x <<< k).toBitVec.toNat = x.toBitVec.toNat * 2 ^ n := by
  rw [Int32.toBitVec_shiftLeft, BitVec.shiftLeft_eq', BitVec.toNat_shiftLeft, hk, Nat.shiftLeft_eq, Nat.mod_eq_of_lt h]
theorem own_mask {x m : Int32} {k : Nat} (hm : m.toBitVec.toNat = 2 ^ k - 1) : (x &&& m).toBitVec.toNat = x.toBitVec.toNat % 2 ^ k := by
  rw [own_andn, hm, Nat.and_two_pow_sub_one_eq_mod]
theorem own_oradd {a b k : Nat} (hb : b < 2 ^ k) : (a * 2 ^ k) ||| b = a * 2 ^ k + b := by
  rw [Nat.mul_comm, ← Nat.two_pow_add_eq_or_of_lt hb]
theorem own_and31 (x : Int32) : 0 ≤ (x &&& (2147483647 : Int32)).toInt := by
  have e := own_mask (x := x) (m := 2147483647) (k := 31) rfl
  rw [own_ti (by rw [e]; omega)]; omega
theorem own_rem {x m : Int32} (hx : 0 ≤ x.toInt) (hm : 0 < m.toInt) : (x % m).toInt = x.toInt % m.toInt ∧ 0 ≤ (x % m).toInt ∧ (x % m).toInt < m.toInt := by
  have e : (x % m).toInt = x.toInt.tmod m.toInt := Int32.toInt_mod x m
  rw [Int.tmod_eq_emod_of_nonneg hx] at e
  exact ⟨e, e ▸ Int.emod_nonneg _ (by omega), e ▸ Int.emod_lt_of_pos _ hm⟩
theorem own_add {a b : Int32} (h : -2147483648 ≤ a.toInt + b.toInt ∧ a.toInt + b.toInt < 2147483648) : (a + b).toInt = a.toInt + b.toInt := by
  rw [Int32.toInt_add]; exact Int.bmod_eq_of_le (by omega) (by omega)
theorem own_sub {a b : Int32} (h : -2147483648 ≤ a.toInt - b.toInt ∧ a.toInt - b.toInt < 2147483648) : (a - b).toInt = a.toInt - b.toInt := by
  rw [Int32.toInt_sub]; exact Int.bmod_eq_of_le (by omega) (by omega)
theorem own_l3 {p v : Int32} (h : v = ((1 : Int32) + ((p &&& (2147483647 : Int32)) % (3 : Int32)))) (h1 : ¬ (v = 1)) (h2 : ¬ (v = 2)) : v = 3 := by
  have r := (own_rem (own_and31 p) (m := 3) (by decide)).2
  rw [show (3 : Int32).toInt = 3 from rfl] at r
  have s : v.toInt = 1 + ((p &&& (2147483647 : Int32)) % (3 : Int32)).toInt := by rw [h, own_add (by rw [show (1 : Int32).toInt = 1 from rfl]; omega), show (1 : Int32).toInt = 1 from rfl]
  simp only [← Int32.toInt_inj, Int32.reduceToInt] at *
  omega
theorem pd3 : parseMethodDescriptor "(Ljava/lang/String;BB[BII[I)V" = some ⟨[(.object "java/lang/String"), .byte, .byte, (.array .byte), .int, .int, (.array .int)], none⟩ := by decide +kernel
theorem pd4 : parseMethodDescriptor "(I)I" = some ⟨[.int], some .int⟩ := by decide +kernel
theorem ef_0 (m : MethodId) (p0 : Int32) (p1 : Int32) (p2 : Int32) (p3 : Int32) (p4 : Int32) : entryFrame m #[(.int p0), (.int p1), (.int p2), (.int p3), (.int p4)] maxLocals = mkF m 0 #[.val (.int p0), .val (.int p1), .val (.int p2), .val (.int p3), .val (.int p4), .unset, .unset, .unset, .unset, .unset, .unset] [] := by (first | (simp [entryFrame, mkF, argsToLocals, Value.category, maxLocals]; done) | rfl)
set_option maxRecDepth 65536 in
theorem own_leaf1 {p0 p1 p2 p3 p4 v1 v12 v14 : Int32} {v7 v8 v9 v10 : Nat → Int32} (hv1 : v1 = ((1 : Int32) + ((p0 &&& (2147483647 : Int32)) % (3 : Int32)))) (hv7 : v7 = (fun _ => (0 : Int32))) (hv8 : v8 = (own_up v7 0 p1)) (hv9 : v9 = (own_up v8 1 p2)) (hv10 : v10 = (fun _ => (0 : Int32))) (hv12 : v12 = (if (v9 1) = p2 then (1 : Int32) else (0 : Int32))) (hv14 : v14 = (if v12 = (0 : Int32) then (0 : Int32) else (1 : Int32))) (hs10_2 : ¬ (v1 = (1 : Int32))) (hs10_6 : v1 = (2 : Int32)) : v14 = 1 := by simp only [hv14, hv12, hv9, hv8, hv7]; simp [own_up]
set_option maxRecDepth 65536 in
theorem own_leaf2 {p0 p1 p2 p3 p4 v1 v22 v25 v26 v28 : Int32} {v16 v17 v18 v19 v20 : Nat → Int32} (hv1 : v1 = ((1 : Int32) + ((p0 &&& (2147483647 : Int32)) % (3 : Int32)))) (hv16 : v16 = (fun _ => (0 : Int32))) (hv17 : v17 = (own_up v16 0 p1)) (hv18 : v18 = (own_up v17 1 p2)) (hv19 : v19 = (own_up v18 2 p3)) (hv20 : v20 = (fun _ => (0 : Int32))) (hv22 : v22 = (if (v19 1) = p2 then (1 : Int32) else (0 : Int32))) (hv25 : v25 = (if (v19 2) = p3 then (1 : Int32) else (0 : Int32))) (hv26 : v26 = (if v22 = (0 : Int32) then (0 : Int32) else v25)) (hv28 : v28 = (if v26 = (0 : Int32) then (0 : Int32) else (1 : Int32))) (hs10_2 : ¬ (v1 = (1 : Int32))) (hs10_6 : ¬ (v1 = (2 : Int32))) (hs10_15 : v1 = (3 : Int32)) : v28 = 1 := by simp only [hv28, hv26, hv22, hv25, hv19, hv18, hv17, hv16]; simp [own_up]
theorem pn5 : plainName "org/tagwright/core/DataFieldDataToPinLaw" = true := by first | (simp [plainName, overriddenIn]; done) | decide +kernel
def Q0 (Z : State) (p0 : Int32) (p1 : Int32) (p2 : Int32) (p3 : Int32) (p4 : Int32) (h0 : Heap) (n0 : Nat) (v : Option Value) (h : Heap) (L : List Loc) : Prop := v = some (.int 1) ∧ Fr n0 L
set_option maxRecDepth 65536 in
set_option maxHeartbeats 40000000 in
theorem rm0 (l : Launch) (Z : State) (a0 : Array Value) (hw : ∀ d ∈ tables_1, d.before a0 Z = true) (ws : List Jvm.Cond) (p0 : Int32) (p1 : Int32) (p2 : Int32) (p3 : Int32) (p4 : Int32) (h0 : Heap) (n0 : Nat) (Z0 : n0 ≤ h0.size) :
    MetFree l x (head1 (Jvm.Cond.code x code maxLocals ret :: ws) room_1) (fun a U => a = #[(.int p0), (.int p1), (.int p2), (.int p3), (.int p4)] ∧ Z.Warmed39 U.vm ∧ U.heap = h0) (fun _ _ _ _ _ => True) (fun _ U o U' => ∃ v L, o = .returned v ∧ Q0 Z p0 p1 p2 p3 p4 h0 n0 v U'.heap L ∧ ReturnedEndW U o U' L room_1.cells room_1.slots) := by
  refine MetFree.of_bodySF (plainFor_of_name pn5) hisR ?_
  intro p e s m args below meth c s₁ Bd hml0 hP hK
  obtain ⟨rfl, hZ, hh⟩ := hP
  have hx := Bd.exec
  have hby := Bd.bytes
  have hml : c.maxLocals = 11 := hml0
  have hown : s.vm.findClass "org/tagwright/core/DataFieldDataToPinLaw" = some m.cls := findClass_of_methodNamed Bd.named
  have hnm := (name_of_methodNamed Bd.named Bd.method).1
  have X0 : Stand p l e room_1 s m #[(.int p0), (.int p1), (.int p2), (.int p3), (.int p4)] below meth c s₁ [] 0 0 := Stand.of_body Bd
  have e0 : s₁.heap = h0 := by rw [← hh, Bd.state]; rfl
  have N0 := Fr.nil n0
  have K0 : Keep h0 h0 [] := Keep.refl h0 _
  show own_GoW p e below s (Q0 Z p0 p1 p2 p3 p4 h0 n0) room_1.cells room_1.slots (s₁.setTop (entryFrame m #[(.int p0), (.int p1), (.int p2), (.int p3), (.int p4)] maxLocals))
  refine own_goW (fun t k => castTop (ef_0 m p0 p1 p2 p3 p4) k) ?_
  have hnz6_101 : ¬ ((3 : Int32) = (0 : Int32)) := by decide
  obtain ⟨v1, hv1⟩ : ∃ z : Int32, z = ((1 : Int32) + ((p0 &&& (2147483647 : Int32)) % (3 : Int32))) := ⟨_, rfl⟩
  have hgo102 : ∀ t, Steps p.tables e below (s₁.setTop (mkF m 10 #[.val (.int p0), .val (.int p1), .val (.int p2), .val (.int p3), .val (.int p4), .val (.int v1), .unset, .unset, .unset, .unset, .unset] [])) t → Steps p.tables e below (s₁.setTop (mkF m 0 #[.val (.int p0), .val (.int p1), .val (.int p2), .val (.int p3), .val (.int p4), .unset, .unset, .unset, .unset, .unset, .unset] [])) t := by
    intro t kt
    show Steps p.tables e below (s₁.setTop (mkF m 0 #[.val (.int p0), .val (.int p1), .val (.int p2), .val (.int p3), .val (.int p4), .unset, .unset, .unset, .unset, .unset, .unset] [])) _
    refine XS.iconst X0.here hx rfl (hb hby at_0) ?_
    show Steps p.tables e below (s₁.setTop (mkF m 1 #[.val (.int p0), .val (.int p1), .val (.int p2), .val (.int p3), .val (.int p4), .unset, .unset, .unset, .unset, .unset, .unset] [(.int (1 : Int32))])) _
    refine XS.iloadN X0.here hx rfl (hb hby at_1) rfl ?_
    show Steps p.tables e below (s₁.setTop (mkF m 2 #[.val (.int p0), .val (.int p1), .val (.int p2), .val (.int p3), .val (.int p4), .unset, .unset, .unset, .unset, .unset, .unset] [(.int p0), (.int (1 : Int32))])) _
    refine X0.ldcInt hx hown (mvT hZ (hw _ (List.mem_of_getElem? (i := 0) rfl))) (g := (mkF m 2 #[.val (.int p0), .val (.int p1), .val (.int p2), .val (.int p3), .val (.int p4), .unset, .unset, .unset, .unset, .unset, .unset] [(.int p0), (.int (1 : Int32))])) rfl (hb hby at_2) _ ?_
    show Steps p.tables e below (s₁.setTop (mkF m 4 #[.val (.int p0), .val (.int p1), .val (.int p2), .val (.int p3), .val (.int p4), .unset, .unset, .unset, .unset, .unset, .unset] [(.int (2147483647 : Int32)), (.int p0), (.int (1 : Int32))])) _
    refine XS.iand X0.here hx rfl (hb hby at_4) rfl ?_
    show Steps p.tables e below (s₁.setTop (mkF m 5 #[.val (.int p0), .val (.int p1), .val (.int p2), .val (.int p3), .val (.int p4), .unset, .unset, .unset, .unset, .unset, .unset] [(.int (p0 &&& (2147483647 : Int32))), (.int (1 : Int32))])) _
    refine XS.iconst X0.here hx rfl (hb hby at_5) ?_
    show Steps p.tables e below (s₁.setTop (mkF m 6 #[.val (.int p0), .val (.int p1), .val (.int p2), .val (.int p3), .val (.int p4), .unset, .unset, .unset, .unset, .unset, .unset] [(.int (3 : Int32)), (.int (p0 &&& (2147483647 : Int32))), (.int (1 : Int32))])) _
    refine XS.irem X0.here hx rfl (hb hby at_6) rfl hnz6_101 ?_
    rw [own_remI (p0 &&& (2147483647 : Int32)) (3 : Int32)]
    show Steps p.tables e below (s₁.setTop (mkF m 7 #[.val (.int p0), .val (.int p1), .val (.int p2), .val (.int p3), .val (.int p4), .unset, .unset, .unset, .unset, .unset, .unset] [(.int ((p0 &&& (2147483647 : Int32)) % (3 : Int32))), (.int (1 : Int32))])) _
    refine XS.iadd X0.here hx rfl (hb hby at_7) rfl ?_
    show Steps p.tables e below (s₁.setTop (mkF m 8 #[.val (.int p0), .val (.int p1), .val (.int p2), .val (.int p3), .val (.int p4), .unset, .unset, .unset, .unset, .unset, .unset] [(.int ((1 : Int32) + ((p0 &&& (2147483647 : Int32)) % (3 : Int32))))])) _
    rw [← hv1]
    show Steps p.tables e below (s₁.setTop (mkF m 8 #[.val (.int p0), .val (.int p1), .val (.int p2), .val (.int p3), .val (.int p4), .unset, .unset, .unset, .unset, .unset, .unset] [(.int v1)])) _
    refine XS.istore X0.here hx rfl (hb hby at_8) rfl (l' := #[.val (.int p0), .val (.int p1), .val (.int p2), .val (.int p3), .val (.int p4), .val (.int v1), .unset, .unset, .unset, .unset, .unset]) rfl ?_
    exact kt
  refine own_goW hgo102 ?_
  by_cases hs10_2 : v1 = (1 : Int32)
  · obtain ⟨T103, h103, k103, X103, e103, E103, A103, st103⟩ := newP X0 hx hZ (hw _ (List.mem_of_getElem? (i := 1) rfl)) e0 (g := (mkF m 12 #[.val (.int p0), .val (.int p1), .val (.int p2), .val (.int p3), .val (.int p4), .val (.int (1 : Int32)), .unset, .unset, .unset, .unset, .unset] [(.int (1 : Int32))])) rfl (hb hby at_12) rfl (by decide) (cap := 1) (by decide) (by decide) (by decide) (by decide)
    obtain ⟨b103, g103⟩ : ∃ z, z = h0.size := ⟨_, rfl⟩
    rw [← g103] at A103 st103
    have g_b103 : n0 ≤ b103 := Nat.le_trans Z0 (Nat.le_of_eq g103.symm)
    have sz_b103 : h0.size ≤ b103 := Nat.le_trans K0.1 (Nat.le_of_eq g103.symm)
    have Z104 : n0 ≤ h103.size := Nat.le_trans Z0 E103.1
    have K105 : Keep h0 h103 [] := K0.ext E103
    obtain ⟨v3, hv3⟩ : ∃ z : Nat → Int32, z = (fun _ => (0 : Int32)) := ⟨_, rfl⟩
    have F106 : own_AI Z h103 b103 .int 1 v3 := by rw [hv3]; exact own_AI.new A103 rfl (by decide)
    have hin20_107 : ¬ (0 : Int32) < 0 ∧ (0 : Int32).toNatClampNeg < 1 := by decide
    obtain ⟨T108, h108, X108, e108, W108, B108, st108⟩ := own_stI X103 hx hZ e103 F106 (j := (0 : Int32)) (x := p1) hin20_107 (g := (mkF m 20 #[.val (.int p0), .val (.int p1), .val (.int p2), .val (.int p3), .val (.int p4), .val (.int (1 : Int32)), .val (.ref b103), .unset, .unset, .unset, .unset] [(.int p1), (.int (0 : Int32)), (.ref b103)])) rfl rfl (hb hby at_20)
    obtain ⟨v4, hv4⟩ : ∃ z : Nat → Int32, z = (own_up v3 0 p1) := ⟨_, rfl⟩
    have B108n : own_AI Z h108 b103 .int 1 v4 := by rw [hv4]; exact B108
    have Z109 : n0 ≤ h108.size := Nat.le_trans Z104 (Keep.of_wr W108).1
    have K110 : Keep h0 h108 [] := K105.wr W108 (Or.inr sz_b103)
    have N111 := Fr.snoc X108 N0 g_b103
    obtain ⟨T112, h112, X112, e112, E112, A112, D112, -, st112⟩ := newO X108 hx hZ hown (hw _ (List.mem_of_getElem? (i := 2) rfl)) (hw _ (List.mem_of_getElem? (i := 3) rfl)) (hw _ (List.mem_of_getElem? (i := 4) rfl)) e108 (g := (mkF m 43 #[.val (.int p0), .val (.int p1), .val (.int p2), .val (.int p3), .val (.int p4), .val (.int (1 : Int32)), .val (.ref b103), .unset, .unset, .unset, .unset] [])) rfl (hb hby at_43) (by decide) (by decide)
    obtain ⟨b112, g112⟩ : ∃ z, z = h108.size := ⟨_, rfl⟩
    rw [← g112] at A112 D112 st112
    have ne_b103_b112 : b103 ≠ b112 := Nat.ne_of_lt (Nat.lt_of_lt_of_le B108n.lt (Nat.le_of_eq g112.symm))
    have g_b112 : n0 ≤ b112 := Nat.le_trans Z109 (Nat.le_of_eq g112.symm)
    have sz_b112 : h0.size ≤ b112 := Nat.le_trans K110.1 (Nat.le_of_eq g112.symm)
    have F113 := B108n.ext E112
    have Z114 : n0 ≤ h112.size := Nat.le_trans Z109 E112.1
    have K115 : Keep h0 h112 [] := K110.ext E112
    have F116 : Fld Z h112 b112 "org/tagwright/core/Field" "tag" "Ljava/lang/String;" .null := D112 (Or.inr (hw _ (List.mem_of_getElem? (i := 25) rfl))) (ty := (.object "java/lang/String")) (by decide)
    have F117 : Fld Z h112 b112 "org/tagwright/core/DataField" "indicator1" "B" (.int (0 : Int32)) := D112 (Or.inr (hw _ (List.mem_of_getElem? (i := 27) rfl))) (ty := .byte) (by decide)
    have F118 : Fld Z h112 b112 "org/tagwright/core/DataField" "indicator2" "B" (.int (0 : Int32)) := D112 (Or.inr (hw _ (List.mem_of_getElem? (i := 29) rfl))) (ty := .byte) (by decide)
    have F119 : Fld Z h112 b112 "org/tagwright/core/DataField" "bytes" "[B" .null := D112 (Or.inr (hw _ (List.mem_of_getElem? (i := 31) rfl))) (ty := (.array .byte)) (by decide)
    have F120 : Fld Z h112 b112 "org/tagwright/core/DataField" "from" "I" (.int (0 : Int32)) := D112 (Or.inr (hw _ (List.mem_of_getElem? (i := 33) rfl))) (ty := .int) (by decide)
    have F121 : Fld Z h112 b112 "org/tagwright/core/DataField" "to" "I" (.int (0 : Int32)) := D112 (Or.inr (hw _ (List.mem_of_getElem? (i := 35) rfl))) (ty := .int) (by decide)
    have F122 : Fld Z h112 b112 "org/tagwright/core/DataField" "delimiters" "[I" .null := D112 (Or.inr (hw _ (List.mem_of_getElem? (i := 37) rfl))) (ty := (.array .int)) (by decide)
    obtain ⟨b123, T123, h123, k123, X123, e123, E123, hS123, hk123, hZ, hown, st123⟩ := ldcS (s := s) (vm0 := s.vm) X112 hx hZ hown (hw _ (List.mem_of_getElem? (i := 5) rfl)) (fun d hd => hw d ((by decide +kernel : ∀ d ∈ Bundle.stringAtoms, d ∈ tables_1) d hd)) e112 (State.WarmedH.since (State.WarmedH.refl s) 0) (Nat.zero_le _) (g := (mkF m 47 #[.val (.int p0), .val (.int p1), .val (.int p2), .val (.int p3), .val (.int p4), .val (.int (1 : Int32)), .val (.ref b103), .unset, .unset, .unset, .unset] [(.ref b112), (.ref b112)])) rfl (hb hby at_47) (n := 12) (by decide) (by decide) (by decide) (by decide)
    have F124 := F113.ext E123
    have F125 := A112.ext E123
    have F126 := F116.ext E123
    have F127 := F117.ext E123
    have F128 := F118.ext E123
    have F129 := F119.ext E123
    have F130 := F120.ext E123
    have F131 := F121.ext E123
    have F132 := F122.ext E123
    have Z133 : n0 ≤ h123.size := Nat.le_trans Z114 E123.1
    have K134 : Keep h0 h123 [] := K115.ext E123
    obtain ⟨T135, h135, k135, X135, e135, E135, A135, st135⟩ := newP X123 hx hZ (hw _ (List.mem_of_getElem? (i := 8) rfl)) e123 (g := (mkF m 54 #[.val (.int p0), .val (.int p1), .val (.int p2), .val (.int p3), .val (.int p4), .val (.int (1 : Int32)), .val (.ref b103), .unset, .unset, .unset, .unset] [(.int (0 : Int32)), (.int (48 : Int32)), (.int (49 : Int32)), (.ref b123), (.ref b112), (.ref b112)])) rfl (hb hby at_54) rfl (by decide) (cap := 0) (by decide) (by decide) (by decide) (by decide)
    obtain ⟨b135, g135⟩ : ∃ z, z = h123.size := ⟨_, rfl⟩
    rw [← g135] at A135 st135
    have ne_b103_b135 : b103 ≠ b135 := Nat.ne_of_lt (Nat.lt_of_lt_of_le F124.lt (Nat.le_of_eq g135.symm))
    have ne_b112_b135 : b112 ≠ b135 := Nat.ne_of_lt (Nat.lt_of_lt_of_le F125.lt (Nat.le_of_eq g135.symm))
    have g_b135 : n0 ≤ b135 := Nat.le_trans Z133 (Nat.le_of_eq g135.symm)
    have sz_b135 : h0.size ≤ b135 := Nat.le_trans K134.1 (Nat.le_of_eq g135.symm)
    have F136 := F124.ext E135
    have F137 := F125.ext E135
    have F138 := F126.ext E135
    have F139 := F127.ext E135
    have F140 := F128.ext E135
    have F141 := F129.ext E135
    have F142 := F130.ext E135
    have F143 := F131.ext E135
    have F144 := F132.ext E135
    have Z145 : n0 ≤ h135.size := Nat.le_trans Z133 E135.1
    have Ks146 : k123 ≤ h135.size := Nat.le_trans hk123 E135.1
    have K147 : Keep h0 h135 [] := K134.ext E135
    obtain ⟨v5, hv5⟩ : ∃ z : Nat → Int32, z = (fun _ => (0 : Int32)) := ⟨_, rfl⟩
    have F148 : own_AI Z h135 b135 .byte 0 v5 := by rw [hv5]; exact own_AI.new A135 rfl (by decide)
    obtain ⟨_, _, ⟨T149, L149, k149, n149⟩, -, X149, ⟨Lc149, hQ149, l149, y149, z149⟩, st149⟩ := X135.specialBack hx (y := (⟨"org/tagwright/core/DataField", "<init>", "(Ljava/lang/String;BB[BII[I)V"⟩ : MethodName)) rfl hown (mvT hZ (hw _ (List.mem_of_getElem? (i := 13) rfl))) (mvT hZ (hw _ (List.mem_of_getElem? (i := 14) rfl))) (mvT hZ (hw _ (List.mem_of_getElem? (i := 15) rfl))) (by decide) (backOf (W := 1) (rm1 l Z a0 hw [] b112 b123 (49 : Int32) (48 : Int32) b135 (0 : Int32) p4 b103 .null (0 : Int32) (0 : Int32) .null (0 : Int32) (0 : Int32) .null h135 n0 Z145 F137 F138 F139 F140 F141 F142 F143 F144 g_b112) hZ (hw _ (List.mem_of_getElem? (i := 15) rfl)) (hw _ (List.mem_of_getElem? (i := 4) rfl)) (by decide) (by decide)) (g := (mkF m 61 #[.val (.int p0), .val (.int p1), .val (.int p2), .val (.int p3), .val (.int p4), .val (.int (1 : Int32)), .val (.ref b103), .unset, .unset, .unset, .unset] [(.ref b103), (.int p4), (.int (0 : Int32)), (.ref b135), (.int (48 : Int32)), (.int (49 : Int32)), (.ref b123), (.ref b112), (.ref b112)])) rfl (by rw [hml]; rfl) (Steps.refl _) (a := b112) (argsL := [(.ref b123), (.int (49 : Int32)), (.int (48 : Int32)), (.ref b135), (.int (0 : Int32)), (.int p4), (.ref b103)]) (rest := [(.ref b112)]) (lenOf pd3 rfl) rfl (by show 2 * 0 + _ ≤ _; exact Nat.le_of_eq rfl) (hb hby at_61) (fun _ _ => ⟨rfl, e135, (by decide : 5 + 0 ≤ _), (by decide : 25 + 0 ≤ _)⟩)
    dsimp only [Pt.U, Pt.locs, Pt.cells, Pt.slots] at X149 l149 y149 z149 st149 hQ149
    subst l149 y149 z149
    obtain ⟨rfl, N149q, K149q, F149_0, F149_1, F149_2, F149_3, F149_4, F149_5, F149_6, F149_7⟩ := hQ149
    have F150 := F136.keep K149q (ninS ne_b103_b112 nin0)
    have F151 := F137.keep K149q
    have F152 := F148.keep K149q (ninS (Ne.symm ne_b112_b135) nin0)
    have Ks153 : k123 ≤ T149.heap.size := Nat.le_trans Ks146 K149q.1
    have Z154 : n0 ≤ T149.heap.size := Nat.le_trans Z145 K149q.1
    have K155 : Keep h0 T149.heap [] := K147.trans K149q (allS (Or.inr sz_b112) all0)
    have N149 := Fr.app N111 N149q
    obtain ⟨cq156, kq156, q156a, q156b, q156c⟩ := isOf hZ (rfl : T149.heap = T149.heap) F149_0
    obtain ⟨_, _, ⟨T156, L156, k156, n156⟩, -, X156, ⟨Lc156, hQ156, l156, y156, z156⟩, st156⟩ := X149.virtualBack hx (y := (⟨"org/tagwright/core/DataField", "dataTo", "(I)I"⟩ : MethodName)) (z := (⟨"org/tagwright/core/DataField", "dataTo", "(I)I"⟩ : MethodName)) hown (mvT hZ (hw _ (List.mem_of_getElem? (i := 38) rfl))) (mvT hZ (hw _ (List.mem_of_getElem? (i := 39) rfl))) (notFace_of_selects (args := #[]) (mvT hZ (hw _ (List.mem_of_getElem? (i := 41) rfl)))) (mvT hZ (hw _ (List.mem_of_getElem? (i := 41) rfl))) (mvT hZ (hw _ (List.mem_of_getElem? (i := 40) rfl))) (by decide) (backOf (W := 0) (rm4_1_0 l Z a0 hw [] b112 (0 : Int32) b103 v4 p4 (T149.heap) n0 Z154 F149_7 F150 (by first | assumption | decide : (0 : Int32) = (0 : Int32)) F149_6) hZ (hw _ (List.mem_of_getElem? (i := 42) rfl)) (hw _ (List.mem_of_getElem? (i := 4) rfl)) (by decide) (by decide)) q156a q156c (g := (mkF m 85 #[.val (.int p0), .val (.int p1), .val (.int p2), .val (.int p3), .val (.int p4), .val (.int (1 : Int32)), .val (.ref b103), .val (.ref b112), .val (.int p4), .unset, .unset] [(.int (0 : Int32)), (.ref b112)])) rfl (by rw [hml]; rfl) (Steps.refl _) (argsL := [(.int (0 : Int32))]) (rest := []) (lenOf pd4 rfl) rfl (by show 2 * 0 + _ ≤ _; exact Nat.le_of_eq rfl) (hb hby at_85) (fun _ _ => ⟨rfl, (rfl : T149.heap = T149.heap), (by decide : 5 + 0 ≤ _), (by decide : 25 + 0 ≤ _)⟩)
    dsimp only [Pt.U, Pt.locs, Pt.cells, Pt.slots] at X156 l156 y156 z156 st156 hQ156
    subst l156 y156 z156
    obtain ⟨rfl, N156q, e156⟩ := hQ156
    have N156 := Fr.app N149 N156q
    have hgo157 : ∀ t, Steps p.tables e below (T156.setTop (mkF m 176 #[.val (.int p0), .val (.int p1), .val (.int p2), .val (.int p3), .val (.int p4), .val (.int (1 : Int32)), .val (.ref b103), .val (.ref b112), .val (.int p4), .val (.int (1 : Int32)), .unset] [(.int (1 : Int32))])) t → Steps p.tables e below (s₁.setTop (mkF m 10 #[.val (.int p0), .val (.int p1), .val (.int p2), .val (.int p3), .val (.int p4), .val (.int v1), .unset, .unset, .unset, .unset, .unset] [])) t := by
      intro t kt
      show Steps p.tables e below (s₁.setTop (mkF m 10 #[.val (.int p0), .val (.int p1), .val (.int p2), .val (.int p3), .val (.int p4), .val (.int v1), .unset, .unset, .unset, .unset, .unset] [])) _
      rw [hs10_2]
      show Steps p.tables e below (s₁.setTop (mkF m 10 #[.val (.int p0), .val (.int p1), .val (.int p2), .val (.int p3), .val (.int p4), .val (.int (1 : Int32)), .unset, .unset, .unset, .unset, .unset] [])) _
      refine XS.iload X0.here hx rfl (hb hby at_10) rfl ?_
      show Steps p.tables e below (s₁.setTop (mkF m 12 #[.val (.int p0), .val (.int p1), .val (.int p2), .val (.int p3), .val (.int p4), .val (.int (1 : Int32)), .unset, .unset, .unset, .unset, .unset] [(.int (1 : Int32))])) _
      refine st103 _ ?_
      show Steps p.tables e below (T103.setTop (mkF m 14 #[.val (.int p0), .val (.int p1), .val (.int p2), .val (.int p3), .val (.int p4), .val (.int (1 : Int32)), .unset, .unset, .unset, .unset, .unset] [(.ref b103)])) _
      refine XS.astore X103.here hx rfl (hb hby at_14) rfl rfl (l' := #[.val (.int p0), .val (.int p1), .val (.int p2), .val (.int p3), .val (.int p4), .val (.int (1 : Int32)), .val (.ref b103), .unset, .unset, .unset, .unset]) rfl ?_
      show Steps p.tables e below (T103.setTop (mkF m 16 #[.val (.int p0), .val (.int p1), .val (.int p2), .val (.int p3), .val (.int p4), .val (.int (1 : Int32)), .val (.ref b103), .unset, .unset, .unset, .unset] [])) _
      refine XS.aload X103.here hx rfl (hb hby at_16) rfl rfl ?_
      show Steps p.tables e below (T103.setTop (mkF m 18 #[.val (.int p0), .val (.int p1), .val (.int p2), .val (.int p3), .val (.int p4), .val (.int (1 : Int32)), .val (.ref b103), .unset, .unset, .unset, .unset] [(.ref b103)])) _
      refine XS.iconst X103.here hx rfl (hb hby at_18) ?_
      show Steps p.tables e below (T103.setTop (mkF m 19 #[.val (.int p0), .val (.int p1), .val (.int p2), .val (.int p3), .val (.int p4), .val (.int (1 : Int32)), .val (.ref b103), .unset, .unset, .unset, .unset] [(.int (0 : Int32)), (.ref b103)])) _
      refine XS.iloadN X103.here hx rfl (hb hby at_19) rfl ?_
      show Steps p.tables e below (T103.setTop (mkF m 20 #[.val (.int p0), .val (.int p1), .val (.int p2), .val (.int p3), .val (.int p4), .val (.int (1 : Int32)), .val (.ref b103), .unset, .unset, .unset, .unset] [(.int p1), (.int (0 : Int32)), (.ref b103)])) _
      refine st108 _ ?_
      show Steps p.tables e below (T108.setTop (mkF m 21 #[.val (.int p0), .val (.int p1), .val (.int p2), .val (.int p3), .val (.int p4), .val (.int (1 : Int32)), .val (.ref b103), .unset, .unset, .unset, .unset] [])) _
      refine XS.iload X108.here hx rfl (hb hby at_21) rfl ?_
      show Steps p.tables e below (T108.setTop (mkF m 23 #[.val (.int p0), .val (.int p1), .val (.int p2), .val (.int p3), .val (.int p4), .val (.int (1 : Int32)), .val (.ref b103), .unset, .unset, .unset, .unset] [(.int (1 : Int32))])) _
      refine XS.iconst X108.here hx rfl (hb hby at_23) ?_
      show Steps p.tables e below (T108.setTop (mkF m 24 #[.val (.int p0), .val (.int p1), .val (.int p2), .val (.int p3), .val (.int p4), .val (.int (1 : Int32)), .val (.ref b103), .unset, .unset, .unset, .unset] [(.int (1 : Int32)), (.int (1 : Int32))])) _
      refine XS.icmpYes X108.here hx rfl (pc0 := 24) (pc' := 32) rfl (hb hby at_24) rfl (flt (by decide : ¬ ((1 : Int32) < (1 : Int32)))).2.2.2 (by decide) (by decide) ?_
      show Steps p.tables e below (T108.setTop (mkF m 32 #[.val (.int p0), .val (.int p1), .val (.int p2), .val (.int p3), .val (.int p4), .val (.int (1 : Int32)), .val (.ref b103), .unset, .unset, .unset, .unset] [])) _
      refine XS.iload X108.here hx rfl (hb hby at_32) rfl ?_
      show Steps p.tables e below (T108.setTop (mkF m 34 #[.val (.int p0), .val (.int p1), .val (.int p2), .val (.int p3), .val (.int p4), .val (.int (1 : Int32)), .val (.ref b103), .unset, .unset, .unset, .unset] [(.int (1 : Int32))])) _
      refine XS.iconst X108.here hx rfl (hb hby at_34) ?_
      show Steps p.tables e below (T108.setTop (mkF m 35 #[.val (.int p0), .val (.int p1), .val (.int p2), .val (.int p3), .val (.int p4), .val (.int (1 : Int32)), .val (.ref b103), .unset, .unset, .unset, .unset] [(.int (2 : Int32)), (.int (1 : Int32))])) _
      refine XS.icmpYes X108.here hx rfl (pc0 := 35) (pc' := 43) rfl (hb hby at_35) rfl (flt (by decide : ¬ ((2 : Int32) < (1 : Int32)))).2.2.2 (by decide) (by decide) ?_
      show Steps p.tables e below (T108.setTop (mkF m 43 #[.val (.int p0), .val (.int p1), .val (.int p2), .val (.int p3), .val (.int p4), .val (.int (1 : Int32)), .val (.ref b103), .unset, .unset, .unset, .unset] [])) _
      refine st112 _ ?_
      show Steps p.tables e below (T112.setTop (mkF m 46 #[.val (.int p0), .val (.int p1), .val (.int p2), .val (.int p3), .val (.int p4), .val (.int (1 : Int32)), .val (.ref b103), .unset, .unset, .unset, .unset] [(.ref b112)])) _
      refine XS.dup X112.here hx rfl (hb hby at_46) rfl rfl ?_
      show Steps p.tables e below (T112.setTop (mkF m 47 #[.val (.int p0), .val (.int p1), .val (.int p2), .val (.int p3), .val (.int p4), .val (.int (1 : Int32)), .val (.ref b103), .unset, .unset, .unset, .unset] [(.ref b112), (.ref b112)])) _
      refine st123 _ ?_
      show Steps p.tables e below (T123.setTop (mkF m 49 #[.val (.int p0), .val (.int p1), .val (.int p2), .val (.int p3), .val (.int p4), .val (.int (1 : Int32)), .val (.ref b103), .unset, .unset, .unset, .unset] [(.ref b123), (.ref b112), (.ref b112)])) _
      refine XS.bipush X123.here hx rfl (hb hby at_49) ?_
      show Steps p.tables e below (T123.setTop (mkF m 51 #[.val (.int p0), .val (.int p1), .val (.int p2), .val (.int p3), .val (.int p4), .val (.int (1 : Int32)), .val (.ref b103), .unset, .unset, .unset, .unset] [(.int (49 : Int32)), (.ref b123), (.ref b112), (.ref b112)])) _
      refine XS.bipush X123.here hx rfl (hb hby at_51) ?_
      show Steps p.tables e below (T123.setTop (mkF m 53 #[.val (.int p0), .val (.int p1), .val (.int p2), .val (.int p3), .val (.int p4), .val (.int (1 : Int32)), .val (.ref b103), .unset, .unset, .unset, .unset] [(.int (48 : Int32)), (.int (49 : Int32)), (.ref b123), (.ref b112), (.ref b112)])) _
      refine XS.iconst X123.here hx rfl (hb hby at_53) ?_
      show Steps p.tables e below (T123.setTop (mkF m 54 #[.val (.int p0), .val (.int p1), .val (.int p2), .val (.int p3), .val (.int p4), .val (.int (1 : Int32)), .val (.ref b103), .unset, .unset, .unset, .unset] [(.int (0 : Int32)), (.int (48 : Int32)), (.int (49 : Int32)), (.ref b123), (.ref b112), (.ref b112)])) _
      refine st135 _ ?_
      show Steps p.tables e below (T135.setTop (mkF m 56 #[.val (.int p0), .val (.int p1), .val (.int p2), .val (.int p3), .val (.int p4), .val (.int (1 : Int32)), .val (.ref b103), .unset, .unset, .unset, .unset] [(.ref b135), (.int (48 : Int32)), (.int (49 : Int32)), (.ref b123), (.ref b112), (.ref b112)])) _
      refine XS.iconst X135.here hx rfl (hb hby at_56) ?_
      show Steps p.tables e below (T135.setTop (mkF m 57 #[.val (.int p0), .val (.int p1), .val (.int p2), .val (.int p3), .val (.int p4), .val (.int (1 : Int32)), .val (.ref b103), .unset, .unset, .unset, .unset] [(.int (0 : Int32)), (.ref b135), (.int (48 : Int32)), (.int (49 : Int32)), (.ref b123), (.ref b112), (.ref b112)])) _
      refine XS.iload X135.here hx rfl (hb hby at_57) rfl ?_
      show Steps p.tables e below (T135.setTop (mkF m 59 #[.val (.int p0), .val (.int p1), .val (.int p2), .val (.int p3), .val (.int p4), .val (.int (1 : Int32)), .val (.ref b103), .unset, .unset, .unset, .unset] [(.int p4), (.int (0 : Int32)), (.ref b135), (.int (48 : Int32)), (.int (49 : Int32)), (.ref b123), (.ref b112), (.ref b112)])) _
      refine XS.aload X135.here hx rfl (hb hby at_59) rfl rfl ?_
      show Steps p.tables e below (T135.setTop (mkF m 61 #[.val (.int p0), .val (.int p1), .val (.int p2), .val (.int p3), .val (.int p4), .val (.int (1 : Int32)), .val (.ref b103), .unset, .unset, .unset, .unset] [(.ref b103), (.int p4), (.int (0 : Int32)), (.ref b135), (.int (48 : Int32)), (.int (49 : Int32)), (.ref b123), (.ref b112), (.ref b112)])) _
      refine st149.trans ?_
      show Steps p.tables e below (T149.setTop (mkF m 64 #[.val (.int p0), .val (.int p1), .val (.int p2), .val (.int p3), .val (.int p4), .val (.int (1 : Int32)), .val (.ref b103), .unset, .unset, .unset, .unset] [(.ref b112)])) _
      refine XS.astore X149.here hx rfl (hb hby at_64) rfl rfl (l' := #[.val (.int p0), .val (.int p1), .val (.int p2), .val (.int p3), .val (.int p4), .val (.int (1 : Int32)), .val (.ref b103), .val (.ref b112), .unset, .unset, .unset]) rfl ?_
      show Steps p.tables e below (T149.setTop (mkF m 66 #[.val (.int p0), .val (.int p1), .val (.int p2), .val (.int p3), .val (.int p4), .val (.int (1 : Int32)), .val (.ref b103), .val (.ref b112), .unset, .unset, .unset] [])) _
      refine XS.iload X149.here hx rfl (hb hby at_66) rfl ?_
      show Steps p.tables e below (T149.setTop (mkF m 68 #[.val (.int p0), .val (.int p1), .val (.int p2), .val (.int p3), .val (.int p4), .val (.int (1 : Int32)), .val (.ref b103), .val (.ref b112), .unset, .unset, .unset] [(.int (1 : Int32))])) _
      refine XS.iconst X149.here hx rfl (hb hby at_68) ?_
      show Steps p.tables e below (T149.setTop (mkF m 69 #[.val (.int p0), .val (.int p1), .val (.int p2), .val (.int p3), .val (.int p4), .val (.int (1 : Int32)), .val (.ref b103), .val (.ref b112), .unset, .unset, .unset] [(.int (1 : Int32)), (.int (1 : Int32))])) _
      refine XS.icmpNo X149.here hx rfl (hb hby at_69) rfl (teq (by decide : (1 : Int32) = (1 : Int32))).2 ?_
      show Steps p.tables e below (T149.setTop (mkF m 72 #[.val (.int p0), .val (.int p1), .val (.int p2), .val (.int p3), .val (.int p4), .val (.int (1 : Int32)), .val (.ref b103), .val (.ref b112), .unset, .unset, .unset] [])) _
      refine XS.iload X149.here hx rfl (hb hby at_72) rfl ?_
      show Steps p.tables e below (T149.setTop (mkF m 74 #[.val (.int p0), .val (.int p1), .val (.int p2), .val (.int p3), .val (.int p4), .val (.int (1 : Int32)), .val (.ref b103), .val (.ref b112), .unset, .unset, .unset] [(.int p4)])) _
      refine XS.istore X149.here hx rfl (hb hby at_74) rfl (l' := #[.val (.int p0), .val (.int p1), .val (.int p2), .val (.int p3), .val (.int p4), .val (.int (1 : Int32)), .val (.ref b103), .val (.ref b112), .val (.int p4), .unset, .unset]) rfl ?_
      show Steps p.tables e below (T149.setTop (mkF m 76 #[.val (.int p0), .val (.int p1), .val (.int p2), .val (.int p3), .val (.int p4), .val (.int (1 : Int32)), .val (.ref b103), .val (.ref b112), .val (.int p4), .unset, .unset] [])) _
      refine XS.goto X149.here hx rfl (pc0 := 76) (pc' := 82) rfl (hb hby at_76) (by decide) (by decide) ?_
      show Steps p.tables e below (T149.setTop (mkF m 82 #[.val (.int p0), .val (.int p1), .val (.int p2), .val (.int p3), .val (.int p4), .val (.int (1 : Int32)), .val (.ref b103), .val (.ref b112), .val (.int p4), .unset, .unset] [])) _
      refine XS.aload X149.here hx rfl (hb hby at_82) rfl rfl ?_
      show Steps p.tables e below (T149.setTop (mkF m 84 #[.val (.int p0), .val (.int p1), .val (.int p2), .val (.int p3), .val (.int p4), .val (.int (1 : Int32)), .val (.ref b103), .val (.ref b112), .val (.int p4), .unset, .unset] [(.ref b112)])) _
      refine XS.iconst X149.here hx rfl (hb hby at_84) ?_
      show Steps p.tables e below (T149.setTop (mkF m 85 #[.val (.int p0), .val (.int p1), .val (.int p2), .val (.int p3), .val (.int p4), .val (.int (1 : Int32)), .val (.ref b103), .val (.ref b112), .val (.int p4), .unset, .unset] [(.int (0 : Int32)), (.ref b112)])) _
      refine st156.trans ?_
      show Steps p.tables e below (T156.setTop (mkF m 88 #[.val (.int p0), .val (.int p1), .val (.int p2), .val (.int p3), .val (.int p4), .val (.int (1 : Int32)), .val (.ref b103), .val (.ref b112), .val (.int p4), .unset, .unset] [(.int p4)])) _
      refine XS.iload X156.here hx rfl (hb hby at_88) rfl ?_
      show Steps p.tables e below (T156.setTop (mkF m 90 #[.val (.int p0), .val (.int p1), .val (.int p2), .val (.int p3), .val (.int p4), .val (.int (1 : Int32)), .val (.ref b103), .val (.ref b112), .val (.int p4), .unset, .unset] [(.int p4), (.int p4)])) _
      refine XS.icmpNo X156.here hx rfl (hb hby at_90) rfl (teq (rfl : p4 = p4)).2 ?_
      show Steps p.tables e below (T156.setTop (mkF m 93 #[.val (.int p0), .val (.int p1), .val (.int p2), .val (.int p3), .val (.int p4), .val (.int (1 : Int32)), .val (.ref b103), .val (.ref b112), .val (.int p4), .unset, .unset] [])) _
      refine XS.iconst X156.here hx rfl (hb hby at_93) ?_
      show Steps p.tables e below (T156.setTop (mkF m 94 #[.val (.int p0), .val (.int p1), .val (.int p2), .val (.int p3), .val (.int p4), .val (.int (1 : Int32)), .val (.ref b103), .val (.ref b112), .val (.int p4), .unset, .unset] [(.int (1 : Int32))])) _
      refine XS.goto X156.here hx rfl (pc0 := 94) (pc' := 98) rfl (hb hby at_94) (by decide) (by decide) ?_
      show Steps p.tables e below (T156.setTop (mkF m 98 #[.val (.int p0), .val (.int p1), .val (.int p2), .val (.int p3), .val (.int p4), .val (.int (1 : Int32)), .val (.ref b103), .val (.ref b112), .val (.int p4), .unset, .unset] [(.int (1 : Int32))])) _
      refine XS.istore X156.here hx rfl (hb hby at_98) rfl (l' := #[.val (.int p0), .val (.int p1), .val (.int p2), .val (.int p3), .val (.int p4), .val (.int (1 : Int32)), .val (.ref b103), .val (.ref b112), .val (.int p4), .val (.int (1 : Int32)), .unset]) rfl ?_
      show Steps p.tables e below (T156.setTop (mkF m 100 #[.val (.int p0), .val (.int p1), .val (.int p2), .val (.int p3), .val (.int p4), .val (.int (1 : Int32)), .val (.ref b103), .val (.ref b112), .val (.int p4), .val (.int (1 : Int32)), .unset] [])) _
      refine XS.iload X156.here hx rfl (hb hby at_100) rfl ?_
      show Steps p.tables e below (T156.setTop (mkF m 102 #[.val (.int p0), .val (.int p1), .val (.int p2), .val (.int p3), .val (.int p4), .val (.int (1 : Int32)), .val (.ref b103), .val (.ref b112), .val (.int p4), .val (.int (1 : Int32)), .unset] [(.int (1 : Int32))])) _
      refine XS.iconst X156.here hx rfl (hb hby at_102) ?_
      show Steps p.tables e below (T156.setTop (mkF m 103 #[.val (.int p0), .val (.int p1), .val (.int p2), .val (.int p3), .val (.int p4), .val (.int (1 : Int32)), .val (.ref b103), .val (.ref b112), .val (.int p4), .val (.int (1 : Int32)), .unset] [(.int (2 : Int32)), (.int (1 : Int32))])) _
      refine XS.icmpYes X156.here hx rfl (pc0 := 103) (pc' := 145) rfl (hb hby at_103) rfl (tlt (by decide : (1 : Int32) < (2 : Int32))).1 (by decide) (by decide) ?_
      show Steps p.tables e below (T156.setTop (mkF m 145 #[.val (.int p0), .val (.int p1), .val (.int p2), .val (.int p3), .val (.int p4), .val (.int (1 : Int32)), .val (.ref b103), .val (.ref b112), .val (.int p4), .val (.int (1 : Int32)), .unset] [])) _
      refine XS.iload X156.here hx rfl (hb hby at_145) rfl ?_
      show Steps p.tables e below (T156.setTop (mkF m 147 #[.val (.int p0), .val (.int p1), .val (.int p2), .val (.int p3), .val (.int p4), .val (.int (1 : Int32)), .val (.ref b103), .val (.ref b112), .val (.int p4), .val (.int (1 : Int32)), .unset] [(.int (1 : Int32))])) _
      refine XS.iconst X156.here hx rfl (hb hby at_147) ?_
      show Steps p.tables e below (T156.setTop (mkF m 148 #[.val (.int p0), .val (.int p1), .val (.int p2), .val (.int p3), .val (.int p4), .val (.int (1 : Int32)), .val (.ref b103), .val (.ref b112), .val (.int p4), .val (.int (1 : Int32)), .unset] [(.int (3 : Int32)), (.int (1 : Int32))])) _
      refine XS.icmpYes X156.here hx rfl (pc0 := 148) (pc' := 174) rfl (hb hby at_148) rfl (feq (by decide : ¬ ((1 : Int32) = (3 : Int32)))).2 (by decide) (by decide) ?_
      show Steps p.tables e below (T156.setTop (mkF m 174 #[.val (.int p0), .val (.int p1), .val (.int p2), .val (.int p3), .val (.int p4), .val (.int (1 : Int32)), .val (.ref b103), .val (.ref b112), .val (.int p4), .val (.int (1 : Int32)), .unset] [])) _
      refine XS.iload X156.here hx rfl (hb hby at_174) rfl ?_
      exact kt
    refine own_goW hgo157 ?_
    exact own_retZW X156 hx Bd.returns Bd.notSynchronized (hb hby at_176) hS123 (by rw [e156]; exact Ks153) (by decide) (by decide) (Or.inr (rfl : (1 : Int32) = 1)) ⟨by rw [(rfl : (1 : Int32) = 1)], N156⟩
  by_cases hs10_6 : v1 = (2 : Int32)
  · obtain ⟨T158, h158, k158, X158, e158, E158, A158, st158⟩ := newP X0 hx hZ (hw _ (List.mem_of_getElem? (i := 1) rfl)) e0 (g := (mkF m 12 #[.val (.int p0), .val (.int p1), .val (.int p2), .val (.int p3), .val (.int p4), .val (.int (2 : Int32)), .unset, .unset, .unset, .unset, .unset] [(.int (2 : Int32))])) rfl (hb hby at_12) rfl (by decide) (cap := 2) (by decide) (by decide) (by decide) (by decide)
    obtain ⟨b158, g158⟩ : ∃ z, z = h0.size := ⟨_, rfl⟩
    rw [← g158] at A158 st158
    have g_b158 : n0 ≤ b158 := Nat.le_trans Z0 (Nat.le_of_eq g158.symm)
    have sz_b158 : h0.size ≤ b158 := Nat.le_trans K0.1 (Nat.le_of_eq g158.symm)
    have Z159 : n0 ≤ h158.size := Nat.le_trans Z0 E158.1
    have K160 : Keep h0 h158 [] := K0.ext E158
    obtain ⟨v7, hv7⟩ : ∃ z : Nat → Int32, z = (fun _ => (0 : Int32)) := ⟨_, rfl⟩
    have F161 : own_AI Z h158 b158 .int 2 v7 := by rw [hv7]; exact own_AI.new A158 rfl (by decide)
    have hin20_162 : ¬ (0 : Int32) < 0 ∧ (0 : Int32).toNatClampNeg < 2 := by decide
    obtain ⟨T163, h163, X163, e163, W163, B163, st163⟩ := own_stI X158 hx hZ e158 F161 (j := (0 : Int32)) (x := p1) hin20_162 (g := (mkF m 20 #[.val (.int p0), .val (.int p1), .val (.int p2), .val (.int p3), .val (.int p4), .val (.int (2 : Int32)), .val (.ref b158), .unset, .unset, .unset, .unset] [(.int p1), (.int (0 : Int32)), (.ref b158)])) rfl rfl (hb hby at_20)
    obtain ⟨v8, hv8⟩ : ∃ z : Nat → Int32, z = (own_up v7 0 p1) := ⟨_, rfl⟩
    have B163n : own_AI Z h163 b158 .int 2 v8 := by rw [hv8]; exact B163
    have Z164 : n0 ≤ h163.size := Nat.le_trans Z159 (Keep.of_wr W163).1
    have K165 : Keep h0 h163 [] := K160.wr W163 (Or.inr sz_b158)
    have N166 := Fr.snoc X163 N0 g_b158
    have hin31_167 : ¬ (1 : Int32) < 0 ∧ (1 : Int32).toNatClampNeg < 2 := by decide
    obtain ⟨T168, h168, X168, e168, W168, B168, st168⟩ := own_stI X163 hx hZ e163 B163n (j := (1 : Int32)) (x := p2) hin31_167 (g := (mkF m 31 #[.val (.int p0), .val (.int p1), .val (.int p2), .val (.int p3), .val (.int p4), .val (.int (2 : Int32)), .val (.ref b158), .unset, .unset, .unset, .unset] [(.int p2), (.int (1 : Int32)), (.ref b158)])) rfl rfl (hb hby at_31)
    obtain ⟨v9, hv9⟩ : ∃ z : Nat → Int32, z = (own_up v8 1 p2) := ⟨_, rfl⟩
    have B168n : own_AI Z h168 b158 .int 2 v9 := by rw [hv9]; exact B168
    have Z169 : n0 ≤ h168.size := Nat.le_trans Z164 (Keep.of_wr W168).1
    have K170 : Keep h0 h168 [] := K165.wr W168 (Or.inr sz_b158)
    have N171 := Fr.snoc X168 N166 g_b158
    obtain ⟨T172, h172, X172, e172, E172, A172, D172, -, st172⟩ := newO X168 hx hZ hown (hw _ (List.mem_of_getElem? (i := 2) rfl)) (hw _ (List.mem_of_getElem? (i := 3) rfl)) (hw _ (List.mem_of_getElem? (i := 4) rfl)) e168 (g := (mkF m 43 #[.val (.int p0), .val (.int p1), .val (.int p2), .val (.int p3), .val (.int p4), .val (.int (2 : Int32)), .val (.ref b158), .unset, .unset, .unset, .unset] [])) rfl (hb hby at_43) (by decide) (by decide)
    obtain ⟨b172, g172⟩ : ∃ z, z = h168.size := ⟨_, rfl⟩
    rw [← g172] at A172 D172 st172
    have ne_b158_b172 : b158 ≠ b172 := Nat.ne_of_lt (Nat.lt_of_lt_of_le B168n.lt (Nat.le_of_eq g172.symm))
    have g_b172 : n0 ≤ b172 := Nat.le_trans Z169 (Nat.le_of_eq g172.symm)
    have sz_b172 : h0.size ≤ b172 := Nat.le_trans K170.1 (Nat.le_of_eq g172.symm)
    have F173 := B168n.ext E172
    have Z174 : n0 ≤ h172.size := Nat.le_trans Z169 E172.1
    have K175 : Keep h0 h172 [] := K170.ext E172
    have F176 : Fld Z h172 b172 "org/tagwright/core/Field" "tag" "Ljava/lang/String;" .null := D172 (Or.inr (hw _ (List.mem_of_getElem? (i := 25) rfl))) (ty := (.object "java/lang/String")) (by decide)
    have F177 : Fld Z h172 b172 "org/tagwright/core/DataField" "indicator1" "B" (.int (0 : Int32)) := D172 (Or.inr (hw _ (List.mem_of_getElem? (i := 27) rfl))) (ty := .byte) (by decide)
    have F178 : Fld Z h172 b172 "org/tagwright/core/DataField" "indicator2" "B" (.int (0 : Int32)) := D172 (Or.inr (hw _ (List.mem_of_getElem? (i := 29) rfl))) (ty := .byte) (by decide)
    have F179 : Fld Z h172 b172 "org/tagwright/core/DataField" "bytes" "[B" .null := D172 (Or.inr (hw _ (List.mem_of_getElem? (i := 31) rfl))) (ty := (.array .byte)) (by decide)
    have F180 : Fld Z h172 b172 "org/tagwright/core/DataField" "from" "I" (.int (0 : Int32)) := D172 (Or.inr (hw _ (List.mem_of_getElem? (i := 33) rfl))) (ty := .int) (by decide)
    have F181 : Fld Z h172 b172 "org/tagwright/core/DataField" "to" "I" (.int (0 : Int32)) := D172 (Or.inr (hw _ (List.mem_of_getElem? (i := 35) rfl))) (ty := .int) (by decide)
    have F182 : Fld Z h172 b172 "org/tagwright/core/DataField" "delimiters" "[I" .null := D172 (Or.inr (hw _ (List.mem_of_getElem? (i := 37) rfl))) (ty := (.array .int)) (by decide)
    obtain ⟨b183, T183, h183, k183, X183, e183, E183, hS183, hk183, hZ, hown, st183⟩ := ldcS (s := s) (vm0 := s.vm) X172 hx hZ hown (hw _ (List.mem_of_getElem? (i := 5) rfl)) (fun d hd => hw d ((by decide +kernel : ∀ d ∈ Bundle.stringAtoms, d ∈ tables_1) d hd)) e172 (State.WarmedH.since (State.WarmedH.refl s) 0) (Nat.zero_le _) (g := (mkF m 47 #[.val (.int p0), .val (.int p1), .val (.int p2), .val (.int p3), .val (.int p4), .val (.int (2 : Int32)), .val (.ref b158), .unset, .unset, .unset, .unset] [(.ref b172), (.ref b172)])) rfl (hb hby at_47) (n := 12) (by decide) (by decide) (by decide) (by decide)
    have F184 := F173.ext E183
    have F185 := A172.ext E183
    have F186 := F176.ext E183
    have F187 := F177.ext E183
    have F188 := F178.ext E183
    have F189 := F179.ext E183
    have F190 := F180.ext E183
    have F191 := F181.ext E183
    have F192 := F182.ext E183
    have Z193 : n0 ≤ h183.size := Nat.le_trans Z174 E183.1
    have K194 : Keep h0 h183 [] := K175.ext E183
    obtain ⟨T195, h195, k195, X195, e195, E195, A195, st195⟩ := newP X183 hx hZ (hw _ (List.mem_of_getElem? (i := 8) rfl)) e183 (g := (mkF m 54 #[.val (.int p0), .val (.int p1), .val (.int p2), .val (.int p3), .val (.int p4), .val (.int (2 : Int32)), .val (.ref b158), .unset, .unset, .unset, .unset] [(.int (0 : Int32)), (.int (48 : Int32)), (.int (49 : Int32)), (.ref b183), (.ref b172), (.ref b172)])) rfl (hb hby at_54) rfl (by decide) (cap := 0) (by decide) (by decide) (by decide) (by decide)
    obtain ⟨b195, g195⟩ : ∃ z, z = h183.size := ⟨_, rfl⟩
    rw [← g195] at A195 st195
    have ne_b158_b195 : b158 ≠ b195 := Nat.ne_of_lt (Nat.lt_of_lt_of_le F184.lt (Nat.le_of_eq g195.symm))
    have ne_b172_b195 : b172 ≠ b195 := Nat.ne_of_lt (Nat.lt_of_lt_of_le F185.lt (Nat.le_of_eq g195.symm))
    have g_b195 : n0 ≤ b195 := Nat.le_trans Z193 (Nat.le_of_eq g195.symm)
    have sz_b195 : h0.size ≤ b195 := Nat.le_trans K194.1 (Nat.le_of_eq g195.symm)
    have F196 := F184.ext E195
    have F197 := F185.ext E195
    have F198 := F186.ext E195
    have F199 := F187.ext E195
    have F200 := F188.ext E195
    have F201 := F189.ext E195
    have F202 := F190.ext E195
    have F203 := F191.ext E195
    have F204 := F192.ext E195
    have Z205 : n0 ≤ h195.size := Nat.le_trans Z193 E195.1
    have Ks206 : k183 ≤ h195.size := Nat.le_trans hk183 E195.1
    have K207 : Keep h0 h195 [] := K194.ext E195
    obtain ⟨v10, hv10⟩ : ∃ z : Nat → Int32, z = (fun _ => (0 : Int32)) := ⟨_, rfl⟩
    have F208 : own_AI Z h195 b195 .byte 0 v10 := by rw [hv10]; exact own_AI.new A195 rfl (by decide)
    obtain ⟨_, _, ⟨T209, L209, k209, n209⟩, -, X209, ⟨Lc209, hQ209, l209, y209, z209⟩, st209⟩ := X195.specialBack hx (y := (⟨"org/tagwright/core/DataField", "<init>", "(Ljava/lang/String;BB[BII[I)V"⟩ : MethodName)) rfl hown (mvT hZ (hw _ (List.mem_of_getElem? (i := 13) rfl))) (mvT hZ (hw _ (List.mem_of_getElem? (i := 14) rfl))) (mvT hZ (hw _ (List.mem_of_getElem? (i := 15) rfl))) (by decide) (backOf (W := 1) (rm1 l Z a0 hw [] b172 b183 (49 : Int32) (48 : Int32) b195 (0 : Int32) p4 b158 .null (0 : Int32) (0 : Int32) .null (0 : Int32) (0 : Int32) .null h195 n0 Z205 F197 F198 F199 F200 F201 F202 F203 F204 g_b172) hZ (hw _ (List.mem_of_getElem? (i := 15) rfl)) (hw _ (List.mem_of_getElem? (i := 4) rfl)) (by decide) (by decide)) (g := (mkF m 61 #[.val (.int p0), .val (.int p1), .val (.int p2), .val (.int p3), .val (.int p4), .val (.int (2 : Int32)), .val (.ref b158), .unset, .unset, .unset, .unset] [(.ref b158), (.int p4), (.int (0 : Int32)), (.ref b195), (.int (48 : Int32)), (.int (49 : Int32)), (.ref b183), (.ref b172), (.ref b172)])) rfl (by rw [hml]; rfl) (Steps.refl _) (a := b172) (argsL := [(.ref b183), (.int (49 : Int32)), (.int (48 : Int32)), (.ref b195), (.int (0 : Int32)), (.int p4), (.ref b158)]) (rest := [(.ref b172)]) (lenOf pd3 rfl) rfl (by show 2 * 0 + _ ≤ _; exact Nat.le_of_eq rfl) (hb hby at_61) (fun _ _ => ⟨rfl, e195, (by decide : 5 + 0 ≤ _), (by decide : 26 + 0 ≤ _)⟩)
    dsimp only [Pt.U, Pt.locs, Pt.cells, Pt.slots] at X209 l209 y209 z209 st209 hQ209
    subst l209 y209 z209
    obtain ⟨rfl, N209q, K209q, F209_0, F209_1, F209_2, F209_3, F209_4, F209_5, F209_6, F209_7⟩ := hQ209
    have F210 := F196.keep K209q (ninS ne_b158_b172 nin0)
    have F211 := F197.keep K209q
    have F212 := F208.keep K209q (ninS (Ne.symm ne_b172_b195) nin0)
    have Ks213 : k183 ≤ T209.heap.size := Nat.le_trans Ks206 K209q.1
    have Z214 : n0 ≤ T209.heap.size := Nat.le_trans Z205 K209q.1
    have K215 : Keep h0 T209.heap [] := K207.trans K209q (allS (Or.inr sz_b172) all0)
    have N209 := Fr.app N171 N209q
    obtain ⟨cq216, kq216, q216a, q216b, q216c⟩ := isOf hZ (rfl : T209.heap = T209.heap) F209_0
    obtain ⟨_, _, ⟨T216, L216, k216, n216⟩, -, X216, ⟨Lc216, hQ216, l216, y216, z216⟩, st216⟩ := X209.virtualBack hx (y := (⟨"org/tagwright/core/DataField", "dataTo", "(I)I"⟩ : MethodName)) (z := (⟨"org/tagwright/core/DataField", "dataTo", "(I)I"⟩ : MethodName)) hown (mvT hZ (hw _ (List.mem_of_getElem? (i := 38) rfl))) (mvT hZ (hw _ (List.mem_of_getElem? (i := 39) rfl))) (notFace_of_selects (args := #[]) (mvT hZ (hw _ (List.mem_of_getElem? (i := 41) rfl)))) (mvT hZ (hw _ (List.mem_of_getElem? (i := 41) rfl))) (mvT hZ (hw _ (List.mem_of_getElem? (i := 40) rfl))) (by decide) (backOf (W := 0) (rm4_2_0 l Z a0 hw [] b172 (0 : Int32) b158 v9 (T209.heap) n0 Z214 F209_7 F210 (by first | assumption | decide : (0 : Int32) = (0 : Int32))) hZ (hw _ (List.mem_of_getElem? (i := 42) rfl)) (hw _ (List.mem_of_getElem? (i := 4) rfl)) (by decide) (by decide)) q216a q216c (g := (mkF m 85 #[.val (.int p0), .val (.int p1), .val (.int p2), .val (.int p3), .val (.int p4), .val (.int (2 : Int32)), .val (.ref b158), .val (.ref b172), .val (.int p2), .unset, .unset] [(.int (0 : Int32)), (.ref b172)])) rfl (by rw [hml]; rfl) (Steps.refl _) (argsL := [(.int (0 : Int32))]) (rest := []) (lenOf pd4 rfl) rfl (by show 2 * 0 + _ ≤ _; exact Nat.le_of_eq rfl) (hb hby at_85) (fun _ _ => ⟨rfl, (rfl : T209.heap = T209.heap), (by decide : 5 + 0 ≤ _), (by decide : 26 + 0 ≤ _)⟩)
    dsimp only [Pt.U, Pt.locs, Pt.cells, Pt.slots] at X216 l216 y216 z216 st216 hQ216
    subst l216 y216 z216
    obtain ⟨rfl, N216q, e216⟩ := hQ216
    have N216 := Fr.app N209 N216q
    obtain ⟨v12, hv12⟩ : ∃ z : Int32, z = (if (v9 1) = p2 then (1 : Int32) else (0 : Int32)) := ⟨_, rfl⟩
    obtain ⟨T219, lc219, X219, N219, e219, st219⟩ := own_mrg (n0 := n0) (h := T209.heap) (g := (mkF m 90 #[.val (.int p0), .val (.int p1), .val (.int p2), .val (.int p3), .val (.int p4), .val (.int (2 : Int32)), .val (.ref b158), .val (.ref b172), .val (.int p2), .unset, .unset] [(.int p2), (.int (v9 1))])) (g' := (mkF m 98 #[.val (.int p0), .val (.int p1), .val (.int p2), .val (.int p3), .val (.int p4), .val (.int (2 : Int32)), .val (.ref b158), .val (.ref b172), .val (.int p2), .unset, .unset] [(.int v12)])) X216 (by
      by_cases hc90_11 : (v9 1) = p2
      · have hgo217 : ∀ t, Steps p.tables e below (T216.setTop (mkF m 98 #[.val (.int p0), .val (.int p1), .val (.int p2), .val (.int p3), .val (.int p4), .val (.int (2 : Int32)), .val (.ref b158), .val (.ref b172), .val (.int p2), .unset, .unset] [(.int (1 : Int32))])) t → Steps p.tables e below (T216.setTop (mkF m 90 #[.val (.int p0), .val (.int p1), .val (.int p2), .val (.int p3), .val (.int p4), .val (.int (2 : Int32)), .val (.ref b158), .val (.ref b172), .val (.int p2), .unset, .unset] [(.int p2), (.int (v9 1))])) t := by
          intro t kt
          show Steps p.tables e below (T216.setTop (mkF m 90 #[.val (.int p0), .val (.int p1), .val (.int p2), .val (.int p3), .val (.int p4), .val (.int (2 : Int32)), .val (.ref b158), .val (.ref b172), .val (.int p2), .unset, .unset] [(.int p2), (.int (v9 1))])) _
          refine XS.icmpNo X216.here hx rfl (hb hby at_90) rfl (teq hc90_11).2 ?_
          show Steps p.tables e below (T216.setTop (mkF m 93 #[.val (.int p0), .val (.int p1), .val (.int p2), .val (.int p3), .val (.int p4), .val (.int (2 : Int32)), .val (.ref b158), .val (.ref b172), .val (.int p2), .unset, .unset] [])) _
          refine XS.iconst X216.here hx rfl (hb hby at_93) ?_
          show Steps p.tables e below (T216.setTop (mkF m 94 #[.val (.int p0), .val (.int p1), .val (.int p2), .val (.int p3), .val (.int p4), .val (.int (2 : Int32)), .val (.ref b158), .val (.ref b172), .val (.int p2), .unset, .unset] [(.int (1 : Int32))])) _
          refine XS.goto X216.here hx rfl (pc0 := 94) (pc' := 98) rfl (hb hby at_94) (by decide) (by decide) ?_
          exact kt
        refine own_arm hgo217 ?_
        exact own_armEnd X216 N216 e216 (by rw [hv12.trans (if_pos hc90_11)])
      · have hgo218 : ∀ t, Steps p.tables e below (T216.setTop (mkF m 98 #[.val (.int p0), .val (.int p1), .val (.int p2), .val (.int p3), .val (.int p4), .val (.int (2 : Int32)), .val (.ref b158), .val (.ref b172), .val (.int p2), .unset, .unset] [(.int (0 : Int32))])) t → Steps p.tables e below (T216.setTop (mkF m 90 #[.val (.int p0), .val (.int p1), .val (.int p2), .val (.int p3), .val (.int p4), .val (.int (2 : Int32)), .val (.ref b158), .val (.ref b172), .val (.int p2), .unset, .unset] [(.int p2), (.int (v9 1))])) t := by
          intro t kt
          show Steps p.tables e below (T216.setTop (mkF m 90 #[.val (.int p0), .val (.int p1), .val (.int p2), .val (.int p3), .val (.int p4), .val (.int (2 : Int32)), .val (.ref b158), .val (.ref b172), .val (.int p2), .unset, .unset] [(.int p2), (.int (v9 1))])) _
          refine XS.icmpYes X216.here hx rfl (pc0 := 90) (pc' := 97) rfl (hb hby at_90) rfl (feq hc90_11).2 (by decide) (by decide) ?_
          show Steps p.tables e below (T216.setTop (mkF m 97 #[.val (.int p0), .val (.int p1), .val (.int p2), .val (.int p3), .val (.int p4), .val (.int (2 : Int32)), .val (.ref b158), .val (.ref b172), .val (.int p2), .unset, .unset] [])) _
          refine XS.iconst X216.here hx rfl (hb hby at_97) ?_
          exact kt
        refine own_arm hgo218 ?_
        exact own_armEnd X216 N216 e216 (by rw [hv12.trans (if_neg hc90_11)]))
    obtain ⟨v14, hv14⟩ : ∃ z : Int32, z = (if v12 = (0 : Int32) then (0 : Int32) else (1 : Int32)) := ⟨_, rfl⟩
    obtain ⟨T223, lc223, X223, N223, e223, st223⟩ := own_mrg (n0 := n0) (h := T209.heap) (g := (mkF m 124 #[.val (.int p0), .val (.int p1), .val (.int p2), .val (.int p3), .val (.int p4), .val (.int (2 : Int32)), .val (.ref b158), .val (.ref b172), .val (.int p2), .val (.int v12), .val (.int p4)] [(.int v12)])) (g' := (mkF m 143 #[.val (.int p0), .val (.int p1), .val (.int p2), .val (.int p3), .val (.int p4), .val (.int (2 : Int32)), .val (.ref b158), .val (.ref b172), .val (.int p2), .val (.int v12), .val (.int p4)] [(.int v14)])) X219 (by
      by_cases hc124_13 : v12 = (0 : Int32)
      · have hgo220 : ∀ t, Steps p.tables e below (T219.setTop (mkF m 143 #[.val (.int p0), .val (.int p1), .val (.int p2), .val (.int p3), .val (.int p4), .val (.int (2 : Int32)), .val (.ref b158), .val (.ref b172), .val (.int p2), .val (.int v12), .val (.int p4)] [(.int (0 : Int32))])) t → Steps p.tables e below (T219.setTop (mkF m 124 #[.val (.int p0), .val (.int p1), .val (.int p2), .val (.int p3), .val (.int p4), .val (.int (2 : Int32)), .val (.ref b158), .val (.ref b172), .val (.int p2), .val (.int v12), .val (.int p4)] [(.int v12)])) t := by
          intro t kt
          show Steps p.tables e below (T219.setTop (mkF m 124 #[.val (.int p0), .val (.int p1), .val (.int p2), .val (.int p3), .val (.int p4), .val (.int (2 : Int32)), .val (.ref b158), .val (.ref b172), .val (.int p2), .val (.int v12), .val (.int p4)] [(.int v12)])) _
          refine XS.ifYes X219.here hx rfl (pc0 := 124) (pc' := 142) rfl (hb hby at_124) rfl ((if0 _ _).trans (teq hc124_13).1) (by decide) (by decide) ?_
          show Steps p.tables e below (T219.setTop (mkF m 142 #[.val (.int p0), .val (.int p1), .val (.int p2), .val (.int p3), .val (.int p4), .val (.int (2 : Int32)), .val (.ref b158), .val (.ref b172), .val (.int p2), .val (.int v12), .val (.int p4)] [])) _
          refine XS.iconst X219.here hx rfl (hb hby at_142) ?_
          exact kt
        refine own_arm hgo220 ?_
        exact own_armEnd X219 N219 e219 (by rw [hv14.trans (if_pos hc124_13)])
      · obtain ⟨cq221, kq221, q221a, q221b, q221c⟩ := isOf hZ e219 F209_0
        obtain ⟨_, _, ⟨T221, L221, k221, n221⟩, -, X221, ⟨Lc221, hQ221, l221, y221, z221⟩, st221⟩ := X219.virtualBack hx (y := (⟨"org/tagwright/core/DataField", "dataTo", "(I)I"⟩ : MethodName)) (z := (⟨"org/tagwright/core/DataField", "dataTo", "(I)I"⟩ : MethodName)) hown (mvT hZ (hw _ (List.mem_of_getElem? (i := 38) rfl))) (mvT hZ (hw _ (List.mem_of_getElem? (i := 39) rfl))) (notFace_of_selects (args := #[]) (mvT hZ (hw _ (List.mem_of_getElem? (i := 41) rfl)))) (mvT hZ (hw _ (List.mem_of_getElem? (i := 41) rfl))) (mvT hZ (hw _ (List.mem_of_getElem? (i := 40) rfl))) (by decide) (backOf (W := 0) (rm4_2_1 l Z a0 hw [] b172 (1 : Int32) b158 v9 p4 (T209.heap) n0 Z214 F209_7 F210 (by first | assumption | decide : (1 : Int32) = (1 : Int32)) F209_6) hZ (hw _ (List.mem_of_getElem? (i := 42) rfl)) (hw _ (List.mem_of_getElem? (i := 4) rfl)) (by decide) (by decide)) q221a q221c (g := (mkF m 130 #[.val (.int p0), .val (.int p1), .val (.int p2), .val (.int p3), .val (.int p4), .val (.int (2 : Int32)), .val (.ref b158), .val (.ref b172), .val (.int p2), .val (.int v12), .val (.int p4)] [(.int (1 : Int32)), (.ref b172)])) rfl (by rw [hml]; rfl) (Steps.refl _) (argsL := [(.int (1 : Int32))]) (rest := []) (lenOf pd4 rfl) rfl (by show 2 * 0 + _ ≤ _; exact Nat.le_of_eq rfl) (hb hby at_130) (fun _ _ => ⟨rfl, e219, (by decide : 5 + 0 ≤ _), (by decide : 26 + 0 ≤ _)⟩)
        dsimp only [Pt.U, Pt.locs, Pt.cells, Pt.slots] at X221 l221 y221 z221 st221 hQ221
        subst l221 y221 z221
        obtain ⟨rfl, N221q, e221⟩ := hQ221
        have N221 := Fr.app N219 N221q
        have hgo222 : ∀ t, Steps p.tables e below (T221.setTop (mkF m 143 #[.val (.int p0), .val (.int p1), .val (.int p2), .val (.int p3), .val (.int p4), .val (.int (2 : Int32)), .val (.ref b158), .val (.ref b172), .val (.int p2), .val (.int v12), .val (.int p4)] [(.int (1 : Int32))])) t → Steps p.tables e below (T219.setTop (mkF m 124 #[.val (.int p0), .val (.int p1), .val (.int p2), .val (.int p3), .val (.int p4), .val (.int (2 : Int32)), .val (.ref b158), .val (.ref b172), .val (.int p2), .val (.int v12), .val (.int p4)] [(.int v12)])) t := by
          intro t kt
          show Steps p.tables e below (T219.setTop (mkF m 124 #[.val (.int p0), .val (.int p1), .val (.int p2), .val (.int p3), .val (.int p4), .val (.int (2 : Int32)), .val (.ref b158), .val (.ref b172), .val (.int p2), .val (.int v12), .val (.int p4)] [(.int v12)])) _
          refine XS.ifNo X219.here hx rfl (hb hby at_124) rfl ((if0 _ _).trans (feq hc124_13).1) ?_
          show Steps p.tables e below (T219.setTop (mkF m 127 #[.val (.int p0), .val (.int p1), .val (.int p2), .val (.int p3), .val (.int p4), .val (.int (2 : Int32)), .val (.ref b158), .val (.ref b172), .val (.int p2), .val (.int v12), .val (.int p4)] [])) _
          refine XS.aload X219.here hx rfl (hb hby at_127) rfl rfl ?_
          show Steps p.tables e below (T219.setTop (mkF m 129 #[.val (.int p0), .val (.int p1), .val (.int p2), .val (.int p3), .val (.int p4), .val (.int (2 : Int32)), .val (.ref b158), .val (.ref b172), .val (.int p2), .val (.int v12), .val (.int p4)] [(.ref b172)])) _
          refine XS.iconst X219.here hx rfl (hb hby at_129) ?_
          show Steps p.tables e below (T219.setTop (mkF m 130 #[.val (.int p0), .val (.int p1), .val (.int p2), .val (.int p3), .val (.int p4), .val (.int (2 : Int32)), .val (.ref b158), .val (.ref b172), .val (.int p2), .val (.int v12), .val (.int p4)] [(.int (1 : Int32)), (.ref b172)])) _
          refine st221.trans ?_
          show Steps p.tables e below (T221.setTop (mkF m 133 #[.val (.int p0), .val (.int p1), .val (.int p2), .val (.int p3), .val (.int p4), .val (.int (2 : Int32)), .val (.ref b158), .val (.ref b172), .val (.int p2), .val (.int v12), .val (.int p4)] [(.int p4)])) _
          refine XS.iload X221.here hx rfl (hb hby at_133) rfl ?_
          show Steps p.tables e below (T221.setTop (mkF m 135 #[.val (.int p0), .val (.int p1), .val (.int p2), .val (.int p3), .val (.int p4), .val (.int (2 : Int32)), .val (.ref b158), .val (.ref b172), .val (.int p2), .val (.int v12), .val (.int p4)] [(.int p4), (.int p4)])) _
          refine XS.icmpNo X221.here hx rfl (hb hby at_135) rfl (teq (rfl : p4 = p4)).2 ?_
          show Steps p.tables e below (T221.setTop (mkF m 138 #[.val (.int p0), .val (.int p1), .val (.int p2), .val (.int p3), .val (.int p4), .val (.int (2 : Int32)), .val (.ref b158), .val (.ref b172), .val (.int p2), .val (.int v12), .val (.int p4)] [])) _
          refine XS.iconst X221.here hx rfl (hb hby at_138) ?_
          show Steps p.tables e below (T221.setTop (mkF m 139 #[.val (.int p0), .val (.int p1), .val (.int p2), .val (.int p3), .val (.int p4), .val (.int (2 : Int32)), .val (.ref b158), .val (.ref b172), .val (.int p2), .val (.int v12), .val (.int p4)] [(.int (1 : Int32))])) _
          refine XS.goto X221.here hx rfl (pc0 := 139) (pc' := 143) rfl (hb hby at_139) (by decide) (by decide) ?_
          exact kt
        refine own_arm hgo222 ?_
        exact own_armEnd X221 N221 e221 (by rw [hv14.trans (if_neg hc124_13)]))
    have hgo224 : ∀ t, Steps p.tables e below (T223.setTop (mkF m 176 #[.val (.int p0), .val (.int p1), .val (.int p2), .val (.int p3), .val (.int p4), .val (.int (2 : Int32)), .val (.ref b158), .val (.ref b172), .val (.int p2), .val (.int v14), .val (.int p4)] [(.int v14)])) t → Steps p.tables e below (s₁.setTop (mkF m 10 #[.val (.int p0), .val (.int p1), .val (.int p2), .val (.int p3), .val (.int p4), .val (.int v1), .unset, .unset, .unset, .unset, .unset] [])) t := by
      intro t kt
      show Steps p.tables e below (s₁.setTop (mkF m 10 #[.val (.int p0), .val (.int p1), .val (.int p2), .val (.int p3), .val (.int p4), .val (.int v1), .unset, .unset, .unset, .unset, .unset] [])) _
      rw [hs10_6]
      show Steps p.tables e below (s₁.setTop (mkF m 10 #[.val (.int p0), .val (.int p1), .val (.int p2), .val (.int p3), .val (.int p4), .val (.int (2 : Int32)), .unset, .unset, .unset, .unset, .unset] [])) _
      refine XS.iload X0.here hx rfl (hb hby at_10) rfl ?_
      show Steps p.tables e below (s₁.setTop (mkF m 12 #[.val (.int p0), .val (.int p1), .val (.int p2), .val (.int p3), .val (.int p4), .val (.int (2 : Int32)), .unset, .unset, .unset, .unset, .unset] [(.int (2 : Int32))])) _
      refine st158 _ ?_
      show Steps p.tables e below (T158.setTop (mkF m 14 #[.val (.int p0), .val (.int p1), .val (.int p2), .val (.int p3), .val (.int p4), .val (.int (2 : Int32)), .unset, .unset, .unset, .unset, .unset] [(.ref b158)])) _
      refine XS.astore X158.here hx rfl (hb hby at_14) rfl rfl (l' := #[.val (.int p0), .val (.int p1), .val (.int p2), .val (.int p3), .val (.int p4), .val (.int (2 : Int32)), .val (.ref b158), .unset, .unset, .unset, .unset]) rfl ?_
      show Steps p.tables e below (T158.setTop (mkF m 16 #[.val (.int p0), .val (.int p1), .val (.int p2), .val (.int p3), .val (.int p4), .val (.int (2 : Int32)), .val (.ref b158), .unset, .unset, .unset, .unset] [])) _
      refine XS.aload X158.here hx rfl (hb hby at_16) rfl rfl ?_
      show Steps p.tables e below (T158.setTop (mkF m 18 #[.val (.int p0), .val (.int p1), .val (.int p2), .val (.int p3), .val (.int p4), .val (.int (2 : Int32)), .val (.ref b158), .unset, .unset, .unset, .unset] [(.ref b158)])) _
      refine XS.iconst X158.here hx rfl (hb hby at_18) ?_
      show Steps p.tables e below (T158.setTop (mkF m 19 #[.val (.int p0), .val (.int p1), .val (.int p2), .val (.int p3), .val (.int p4), .val (.int (2 : Int32)), .val (.ref b158), .unset, .unset, .unset, .unset] [(.int (0 : Int32)), (.ref b158)])) _
      refine XS.iloadN X158.here hx rfl (hb hby at_19) rfl ?_
      show Steps p.tables e below (T158.setTop (mkF m 20 #[.val (.int p0), .val (.int p1), .val (.int p2), .val (.int p3), .val (.int p4), .val (.int (2 : Int32)), .val (.ref b158), .unset, .unset, .unset, .unset] [(.int p1), (.int (0 : Int32)), (.ref b158)])) _
      refine st163 _ ?_
      show Steps p.tables e below (T163.setTop (mkF m 21 #[.val (.int p0), .val (.int p1), .val (.int p2), .val (.int p3), .val (.int p4), .val (.int (2 : Int32)), .val (.ref b158), .unset, .unset, .unset, .unset] [])) _
      refine XS.iload X163.here hx rfl (hb hby at_21) rfl ?_
      show Steps p.tables e below (T163.setTop (mkF m 23 #[.val (.int p0), .val (.int p1), .val (.int p2), .val (.int p3), .val (.int p4), .val (.int (2 : Int32)), .val (.ref b158), .unset, .unset, .unset, .unset] [(.int (2 : Int32))])) _
      refine XS.iconst X163.here hx rfl (hb hby at_23) ?_
      show Steps p.tables e below (T163.setTop (mkF m 24 #[.val (.int p0), .val (.int p1), .val (.int p2), .val (.int p3), .val (.int p4), .val (.int (2 : Int32)), .val (.ref b158), .unset, .unset, .unset, .unset] [(.int (1 : Int32)), (.int (2 : Int32))])) _
      refine XS.icmpNo X163.here hx rfl (hb hby at_24) rfl (tlt (by decide : (1 : Int32) < (2 : Int32))).2.2.2 ?_
      show Steps p.tables e below (T163.setTop (mkF m 27 #[.val (.int p0), .val (.int p1), .val (.int p2), .val (.int p3), .val (.int p4), .val (.int (2 : Int32)), .val (.ref b158), .unset, .unset, .unset, .unset] [])) _
      refine XS.aload X163.here hx rfl (hb hby at_27) rfl rfl ?_
      show Steps p.tables e below (T163.setTop (mkF m 29 #[.val (.int p0), .val (.int p1), .val (.int p2), .val (.int p3), .val (.int p4), .val (.int (2 : Int32)), .val (.ref b158), .unset, .unset, .unset, .unset] [(.ref b158)])) _
      refine XS.iconst X163.here hx rfl (hb hby at_29) ?_
      show Steps p.tables e below (T163.setTop (mkF m 30 #[.val (.int p0), .val (.int p1), .val (.int p2), .val (.int p3), .val (.int p4), .val (.int (2 : Int32)), .val (.ref b158), .unset, .unset, .unset, .unset] [(.int (1 : Int32)), (.ref b158)])) _
      refine XS.iloadN X163.here hx rfl (hb hby at_30) rfl ?_
      show Steps p.tables e below (T163.setTop (mkF m 31 #[.val (.int p0), .val (.int p1), .val (.int p2), .val (.int p3), .val (.int p4), .val (.int (2 : Int32)), .val (.ref b158), .unset, .unset, .unset, .unset] [(.int p2), (.int (1 : Int32)), (.ref b158)])) _
      refine st168 _ ?_
      show Steps p.tables e below (T168.setTop (mkF m 32 #[.val (.int p0), .val (.int p1), .val (.int p2), .val (.int p3), .val (.int p4), .val (.int (2 : Int32)), .val (.ref b158), .unset, .unset, .unset, .unset] [])) _
      refine XS.iload X168.here hx rfl (hb hby at_32) rfl ?_
      show Steps p.tables e below (T168.setTop (mkF m 34 #[.val (.int p0), .val (.int p1), .val (.int p2), .val (.int p3), .val (.int p4), .val (.int (2 : Int32)), .val (.ref b158), .unset, .unset, .unset, .unset] [(.int (2 : Int32))])) _
      refine XS.iconst X168.here hx rfl (hb hby at_34) ?_
      show Steps p.tables e below (T168.setTop (mkF m 35 #[.val (.int p0), .val (.int p1), .val (.int p2), .val (.int p3), .val (.int p4), .val (.int (2 : Int32)), .val (.ref b158), .unset, .unset, .unset, .unset] [(.int (2 : Int32)), (.int (2 : Int32))])) _
      refine XS.icmpYes X168.here hx rfl (pc0 := 35) (pc' := 43) rfl (hb hby at_35) rfl (flt (by decide : ¬ ((2 : Int32) < (2 : Int32)))).2.2.2 (by decide) (by decide) ?_
      show Steps p.tables e below (T168.setTop (mkF m 43 #[.val (.int p0), .val (.int p1), .val (.int p2), .val (.int p3), .val (.int p4), .val (.int (2 : Int32)), .val (.ref b158), .unset, .unset, .unset, .unset] [])) _
      refine st172 _ ?_
      show Steps p.tables e below (T172.setTop (mkF m 46 #[.val (.int p0), .val (.int p1), .val (.int p2), .val (.int p3), .val (.int p4), .val (.int (2 : Int32)), .val (.ref b158), .unset, .unset, .unset, .unset] [(.ref b172)])) _
      refine XS.dup X172.here hx rfl (hb hby at_46) rfl rfl ?_
      show Steps p.tables e below (T172.setTop (mkF m 47 #[.val (.int p0), .val (.int p1), .val (.int p2), .val (.int p3), .val (.int p4), .val (.int (2 : Int32)), .val (.ref b158), .unset, .unset, .unset, .unset] [(.ref b172), (.ref b172)])) _
      refine st183 _ ?_
      show Steps p.tables e below (T183.setTop (mkF m 49 #[.val (.int p0), .val (.int p1), .val (.int p2), .val (.int p3), .val (.int p4), .val (.int (2 : Int32)), .val (.ref b158), .unset, .unset, .unset, .unset] [(.ref b183), (.ref b172), (.ref b172)])) _
      refine XS.bipush X183.here hx rfl (hb hby at_49) ?_
      show Steps p.tables e below (T183.setTop (mkF m 51 #[.val (.int p0), .val (.int p1), .val (.int p2), .val (.int p3), .val (.int p4), .val (.int (2 : Int32)), .val (.ref b158), .unset, .unset, .unset, .unset] [(.int (49 : Int32)), (.ref b183), (.ref b172), (.ref b172)])) _
      refine XS.bipush X183.here hx rfl (hb hby at_51) ?_
      show Steps p.tables e below (T183.setTop (mkF m 53 #[.val (.int p0), .val (.int p1), .val (.int p2), .val (.int p3), .val (.int p4), .val (.int (2 : Int32)), .val (.ref b158), .unset, .unset, .unset, .unset] [(.int (48 : Int32)), (.int (49 : Int32)), (.ref b183), (.ref b172), (.ref b172)])) _
      refine XS.iconst X183.here hx rfl (hb hby at_53) ?_
      show Steps p.tables e below (T183.setTop (mkF m 54 #[.val (.int p0), .val (.int p1), .val (.int p2), .val (.int p3), .val (.int p4), .val (.int (2 : Int32)), .val (.ref b158), .unset, .unset, .unset, .unset] [(.int (0 : Int32)), (.int (48 : Int32)), (.int (49 : Int32)), (.ref b183), (.ref b172), (.ref b172)])) _
      refine st195 _ ?_
      show Steps p.tables e below (T195.setTop (mkF m 56 #[.val (.int p0), .val (.int p1), .val (.int p2), .val (.int p3), .val (.int p4), .val (.int (2 : Int32)), .val (.ref b158), .unset, .unset, .unset, .unset] [(.ref b195), (.int (48 : Int32)), (.int (49 : Int32)), (.ref b183), (.ref b172), (.ref b172)])) _
      refine XS.iconst X195.here hx rfl (hb hby at_56) ?_
      show Steps p.tables e below (T195.setTop (mkF m 57 #[.val (.int p0), .val (.int p1), .val (.int p2), .val (.int p3), .val (.int p4), .val (.int (2 : Int32)), .val (.ref b158), .unset, .unset, .unset, .unset] [(.int (0 : Int32)), (.ref b195), (.int (48 : Int32)), (.int (49 : Int32)), (.ref b183), (.ref b172), (.ref b172)])) _
      refine XS.iload X195.here hx rfl (hb hby at_57) rfl ?_
      show Steps p.tables e below (T195.setTop (mkF m 59 #[.val (.int p0), .val (.int p1), .val (.int p2), .val (.int p3), .val (.int p4), .val (.int (2 : Int32)), .val (.ref b158), .unset, .unset, .unset, .unset] [(.int p4), (.int (0 : Int32)), (.ref b195), (.int (48 : Int32)), (.int (49 : Int32)), (.ref b183), (.ref b172), (.ref b172)])) _
      refine XS.aload X195.here hx rfl (hb hby at_59) rfl rfl ?_
      show Steps p.tables e below (T195.setTop (mkF m 61 #[.val (.int p0), .val (.int p1), .val (.int p2), .val (.int p3), .val (.int p4), .val (.int (2 : Int32)), .val (.ref b158), .unset, .unset, .unset, .unset] [(.ref b158), (.int p4), (.int (0 : Int32)), (.ref b195), (.int (48 : Int32)), (.int (49 : Int32)), (.ref b183), (.ref b172), (.ref b172)])) _
      refine st209.trans ?_
      show Steps p.tables e below (T209.setTop (mkF m 64 #[.val (.int p0), .val (.int p1), .val (.int p2), .val (.int p3), .val (.int p4), .val (.int (2 : Int32)), .val (.ref b158), .unset, .unset, .unset, .unset] [(.ref b172)])) _
      refine XS.astore X209.here hx rfl (hb hby at_64) rfl rfl (l' := #[.val (.int p0), .val (.int p1), .val (.int p2), .val (.int p3), .val (.int p4), .val (.int (2 : Int32)), .val (.ref b158), .val (.ref b172), .unset, .unset, .unset]) rfl ?_
      show Steps p.tables e below (T209.setTop (mkF m 66 #[.val (.int p0), .val (.int p1), .val (.int p2), .val (.int p3), .val (.int p4), .val (.int (2 : Int32)), .val (.ref b158), .val (.ref b172), .unset, .unset, .unset] [])) _
      refine XS.iload X209.here hx rfl (hb hby at_66) rfl ?_
      show Steps p.tables e below (T209.setTop (mkF m 68 #[.val (.int p0), .val (.int p1), .val (.int p2), .val (.int p3), .val (.int p4), .val (.int (2 : Int32)), .val (.ref b158), .val (.ref b172), .unset, .unset, .unset] [(.int (2 : Int32))])) _
      refine XS.iconst X209.here hx rfl (hb hby at_68) ?_
      show Steps p.tables e below (T209.setTop (mkF m 69 #[.val (.int p0), .val (.int p1), .val (.int p2), .val (.int p3), .val (.int p4), .val (.int (2 : Int32)), .val (.ref b158), .val (.ref b172), .unset, .unset, .unset] [(.int (1 : Int32)), (.int (2 : Int32))])) _
      refine XS.icmpYes X209.here hx rfl (pc0 := 69) (pc' := 79) rfl (hb hby at_69) rfl (feq (by decide : ¬ ((2 : Int32) = (1 : Int32)))).2 (by decide) (by decide) ?_
      show Steps p.tables e below (T209.setTop (mkF m 79 #[.val (.int p0), .val (.int p1), .val (.int p2), .val (.int p3), .val (.int p4), .val (.int (2 : Int32)), .val (.ref b158), .val (.ref b172), .unset, .unset, .unset] [])) _
      refine XS.iloadN X209.here hx rfl (hb hby at_79) rfl ?_
      show Steps p.tables e below (T209.setTop (mkF m 80 #[.val (.int p0), .val (.int p1), .val (.int p2), .val (.int p3), .val (.int p4), .val (.int (2 : Int32)), .val (.ref b158), .val (.ref b172), .unset, .unset, .unset] [(.int p2)])) _
      refine XS.istore X209.here hx rfl (hb hby at_80) rfl (l' := #[.val (.int p0), .val (.int p1), .val (.int p2), .val (.int p3), .val (.int p4), .val (.int (2 : Int32)), .val (.ref b158), .val (.ref b172), .val (.int p2), .unset, .unset]) rfl ?_
      show Steps p.tables e below (T209.setTop (mkF m 82 #[.val (.int p0), .val (.int p1), .val (.int p2), .val (.int p3), .val (.int p4), .val (.int (2 : Int32)), .val (.ref b158), .val (.ref b172), .val (.int p2), .unset, .unset] [])) _
      refine XS.aload X209.here hx rfl (hb hby at_82) rfl rfl ?_
      show Steps p.tables e below (T209.setTop (mkF m 84 #[.val (.int p0), .val (.int p1), .val (.int p2), .val (.int p3), .val (.int p4), .val (.int (2 : Int32)), .val (.ref b158), .val (.ref b172), .val (.int p2), .unset, .unset] [(.ref b172)])) _
      refine XS.iconst X209.here hx rfl (hb hby at_84) ?_
      show Steps p.tables e below (T209.setTop (mkF m 85 #[.val (.int p0), .val (.int p1), .val (.int p2), .val (.int p3), .val (.int p4), .val (.int (2 : Int32)), .val (.ref b158), .val (.ref b172), .val (.int p2), .unset, .unset] [(.int (0 : Int32)), (.ref b172)])) _
      refine st216.trans ?_
      show Steps p.tables e below (T216.setTop (mkF m 88 #[.val (.int p0), .val (.int p1), .val (.int p2), .val (.int p3), .val (.int p4), .val (.int (2 : Int32)), .val (.ref b158), .val (.ref b172), .val (.int p2), .unset, .unset] [(.int (v9 1))])) _
      refine XS.iload X216.here hx rfl (hb hby at_88) rfl ?_
      show Steps p.tables e below (T216.setTop (mkF m 90 #[.val (.int p0), .val (.int p1), .val (.int p2), .val (.int p3), .val (.int p4), .val (.int (2 : Int32)), .val (.ref b158), .val (.ref b172), .val (.int p2), .unset, .unset] [(.int p2), (.int (v9 1))])) _
      refine st219 _ ?_
      show Steps p.tables e below (T219.setTop (mkF m 98 #[.val (.int p0), .val (.int p1), .val (.int p2), .val (.int p3), .val (.int p4), .val (.int (2 : Int32)), .val (.ref b158), .val (.ref b172), .val (.int p2), .unset, .unset] [(.int v12)])) _
      refine XS.istore X219.here hx rfl (hb hby at_98) rfl (l' := #[.val (.int p0), .val (.int p1), .val (.int p2), .val (.int p3), .val (.int p4), .val (.int (2 : Int32)), .val (.ref b158), .val (.ref b172), .val (.int p2), .val (.int v12), .unset]) rfl ?_
      show Steps p.tables e below (T219.setTop (mkF m 100 #[.val (.int p0), .val (.int p1), .val (.int p2), .val (.int p3), .val (.int p4), .val (.int (2 : Int32)), .val (.ref b158), .val (.ref b172), .val (.int p2), .val (.int v12), .unset] [])) _
      refine XS.iload X219.here hx rfl (hb hby at_100) rfl ?_
      show Steps p.tables e below (T219.setTop (mkF m 102 #[.val (.int p0), .val (.int p1), .val (.int p2), .val (.int p3), .val (.int p4), .val (.int (2 : Int32)), .val (.ref b158), .val (.ref b172), .val (.int p2), .val (.int v12), .unset] [(.int (2 : Int32))])) _
      refine XS.iconst X219.here hx rfl (hb hby at_102) ?_
      show Steps p.tables e below (T219.setTop (mkF m 103 #[.val (.int p0), .val (.int p1), .val (.int p2), .val (.int p3), .val (.int p4), .val (.int (2 : Int32)), .val (.ref b158), .val (.ref b172), .val (.int p2), .val (.int v12), .unset] [(.int (2 : Int32)), (.int (2 : Int32))])) _
      refine XS.icmpNo X219.here hx rfl (hb hby at_103) rfl (flt (by decide : ¬ ((2 : Int32) < (2 : Int32)))).1 ?_
      show Steps p.tables e below (T219.setTop (mkF m 106 #[.val (.int p0), .val (.int p1), .val (.int p2), .val (.int p3), .val (.int p4), .val (.int (2 : Int32)), .val (.ref b158), .val (.ref b172), .val (.int p2), .val (.int v12), .unset] [])) _
      refine XS.iload X219.here hx rfl (hb hby at_106) rfl ?_
      show Steps p.tables e below (T219.setTop (mkF m 108 #[.val (.int p0), .val (.int p1), .val (.int p2), .val (.int p3), .val (.int p4), .val (.int (2 : Int32)), .val (.ref b158), .val (.ref b172), .val (.int p2), .val (.int v12), .unset] [(.int (2 : Int32))])) _
      refine XS.iconst X219.here hx rfl (hb hby at_108) ?_
      show Steps p.tables e below (T219.setTop (mkF m 109 #[.val (.int p0), .val (.int p1), .val (.int p2), .val (.int p3), .val (.int p4), .val (.int (2 : Int32)), .val (.ref b158), .val (.ref b172), .val (.int p2), .val (.int v12), .unset] [(.int (2 : Int32)), (.int (2 : Int32))])) _
      refine XS.icmpNo X219.here hx rfl (hb hby at_109) rfl (teq (by decide : (2 : Int32) = (2 : Int32))).2 ?_
      show Steps p.tables e below (T219.setTop (mkF m 112 #[.val (.int p0), .val (.int p1), .val (.int p2), .val (.int p3), .val (.int p4), .val (.int (2 : Int32)), .val (.ref b158), .val (.ref b172), .val (.int p2), .val (.int v12), .unset] [])) _
      refine XS.iload X219.here hx rfl (hb hby at_112) rfl ?_
      show Steps p.tables e below (T219.setTop (mkF m 114 #[.val (.int p0), .val (.int p1), .val (.int p2), .val (.int p3), .val (.int p4), .val (.int (2 : Int32)), .val (.ref b158), .val (.ref b172), .val (.int p2), .val (.int v12), .unset] [(.int p4)])) _
      refine XS.istore X219.here hx rfl (hb hby at_114) rfl (l' := #[.val (.int p0), .val (.int p1), .val (.int p2), .val (.int p3), .val (.int p4), .val (.int (2 : Int32)), .val (.ref b158), .val (.ref b172), .val (.int p2), .val (.int v12), .val (.int p4)]) rfl ?_
      show Steps p.tables e below (T219.setTop (mkF m 116 #[.val (.int p0), .val (.int p1), .val (.int p2), .val (.int p3), .val (.int p4), .val (.int (2 : Int32)), .val (.ref b158), .val (.ref b172), .val (.int p2), .val (.int v12), .val (.int p4)] [])) _
      refine XS.goto X219.here hx rfl (pc0 := 116) (pc' := 122) rfl (hb hby at_116) (by decide) (by decide) ?_
      show Steps p.tables e below (T219.setTop (mkF m 122 #[.val (.int p0), .val (.int p1), .val (.int p2), .val (.int p3), .val (.int p4), .val (.int (2 : Int32)), .val (.ref b158), .val (.ref b172), .val (.int p2), .val (.int v12), .val (.int p4)] [])) _
      refine XS.iload X219.here hx rfl (hb hby at_122) rfl ?_
      show Steps p.tables e below (T219.setTop (mkF m 124 #[.val (.int p0), .val (.int p1), .val (.int p2), .val (.int p3), .val (.int p4), .val (.int (2 : Int32)), .val (.ref b158), .val (.ref b172), .val (.int p2), .val (.int v12), .val (.int p4)] [(.int v12)])) _
      refine st223 _ ?_
      show Steps p.tables e below (T223.setTop (mkF m 143 #[.val (.int p0), .val (.int p1), .val (.int p2), .val (.int p3), .val (.int p4), .val (.int (2 : Int32)), .val (.ref b158), .val (.ref b172), .val (.int p2), .val (.int v12), .val (.int p4)] [(.int v14)])) _
      refine XS.istore X223.here hx rfl (hb hby at_143) rfl (l' := #[.val (.int p0), .val (.int p1), .val (.int p2), .val (.int p3), .val (.int p4), .val (.int (2 : Int32)), .val (.ref b158), .val (.ref b172), .val (.int p2), .val (.int v14), .val (.int p4)]) rfl ?_
      show Steps p.tables e below (T223.setTop (mkF m 145 #[.val (.int p0), .val (.int p1), .val (.int p2), .val (.int p3), .val (.int p4), .val (.int (2 : Int32)), .val (.ref b158), .val (.ref b172), .val (.int p2), .val (.int v14), .val (.int p4)] [])) _
      refine XS.iload X223.here hx rfl (hb hby at_145) rfl ?_
      show Steps p.tables e below (T223.setTop (mkF m 147 #[.val (.int p0), .val (.int p1), .val (.int p2), .val (.int p3), .val (.int p4), .val (.int (2 : Int32)), .val (.ref b158), .val (.ref b172), .val (.int p2), .val (.int v14), .val (.int p4)] [(.int (2 : Int32))])) _
      refine XS.iconst X223.here hx rfl (hb hby at_147) ?_
      show Steps p.tables e below (T223.setTop (mkF m 148 #[.val (.int p0), .val (.int p1), .val (.int p2), .val (.int p3), .val (.int p4), .val (.int (2 : Int32)), .val (.ref b158), .val (.ref b172), .val (.int p2), .val (.int v14), .val (.int p4)] [(.int (3 : Int32)), (.int (2 : Int32))])) _
      refine XS.icmpYes X223.here hx rfl (pc0 := 148) (pc' := 174) rfl (hb hby at_148) rfl (feq (by decide : ¬ ((2 : Int32) = (3 : Int32)))).2 (by decide) (by decide) ?_
      show Steps p.tables e below (T223.setTop (mkF m 174 #[.val (.int p0), .val (.int p1), .val (.int p2), .val (.int p3), .val (.int p4), .val (.int (2 : Int32)), .val (.ref b158), .val (.ref b172), .val (.int p2), .val (.int v14), .val (.int p4)] [])) _
      refine XS.iload X223.here hx rfl (hb hby at_174) rfl ?_
      exact kt
    refine own_goW hgo224 ?_
    have hz225 : v14 = 1 := own_leaf1 (p0 := p0) (p1 := p1) (p2 := p2) (p3 := p3) (p4 := p4) hv1 hv7 hv8 hv9 hv10 hv12 hv14 hs10_2 hs10_6
    exact own_retZW X223 hx Bd.returns Bd.notSynchronized (hb hby at_176) hS183 (by rw [e223]; exact Ks213) (by decide) (by decide) (Or.inr hz225) ⟨by rw [hz225], N223⟩
  · have hs10_15 : v1 = (3 : Int32) := own_l3 hv1 hs10_2 hs10_6
    obtain ⟨T226, h226, k226, X226, e226, E226, A226, st226⟩ := newP X0 hx hZ (hw _ (List.mem_of_getElem? (i := 1) rfl)) e0 (g := (mkF m 12 #[.val (.int p0), .val (.int p1), .val (.int p2), .val (.int p3), .val (.int p4), .val (.int (3 : Int32)), .unset, .unset, .unset, .unset, .unset] [(.int (3 : Int32))])) rfl (hb hby at_12) rfl (by decide) (cap := 3) (by decide) (by decide) (by decide) (by decide)
    obtain ⟨b226, g226⟩ : ∃ z, z = h0.size := ⟨_, rfl⟩
    rw [← g226] at A226 st226
    have g_b226 : n0 ≤ b226 := Nat.le_trans Z0 (Nat.le_of_eq g226.symm)
    have sz_b226 : h0.size ≤ b226 := Nat.le_trans K0.1 (Nat.le_of_eq g226.symm)
    have Z227 : n0 ≤ h226.size := Nat.le_trans Z0 E226.1
    have K228 : Keep h0 h226 [] := K0.ext E226
    obtain ⟨v16, hv16⟩ : ∃ z : Nat → Int32, z = (fun _ => (0 : Int32)) := ⟨_, rfl⟩
    have F229 : own_AI Z h226 b226 .int 3 v16 := by rw [hv16]; exact own_AI.new A226 rfl (by decide)
    have hin20_230 : ¬ (0 : Int32) < 0 ∧ (0 : Int32).toNatClampNeg < 3 := by decide
    obtain ⟨T231, h231, X231, e231, W231, B231, st231⟩ := own_stI X226 hx hZ e226 F229 (j := (0 : Int32)) (x := p1) hin20_230 (g := (mkF m 20 #[.val (.int p0), .val (.int p1), .val (.int p2), .val (.int p3), .val (.int p4), .val (.int (3 : Int32)), .val (.ref b226), .unset, .unset, .unset, .unset] [(.int p1), (.int (0 : Int32)), (.ref b226)])) rfl rfl (hb hby at_20)
    obtain ⟨v17, hv17⟩ : ∃ z : Nat → Int32, z = (own_up v16 0 p1) := ⟨_, rfl⟩
    have B231n : own_AI Z h231 b226 .int 3 v17 := by rw [hv17]; exact B231
    have Z232 : n0 ≤ h231.size := Nat.le_trans Z227 (Keep.of_wr W231).1
    have K233 : Keep h0 h231 [] := K228.wr W231 (Or.inr sz_b226)
    have N234 := Fr.snoc X231 N0 g_b226
    have hin31_235 : ¬ (1 : Int32) < 0 ∧ (1 : Int32).toNatClampNeg < 3 := by decide
    obtain ⟨T236, h236, X236, e236, W236, B236, st236⟩ := own_stI X231 hx hZ e231 B231n (j := (1 : Int32)) (x := p2) hin31_235 (g := (mkF m 31 #[.val (.int p0), .val (.int p1), .val (.int p2), .val (.int p3), .val (.int p4), .val (.int (3 : Int32)), .val (.ref b226), .unset, .unset, .unset, .unset] [(.int p2), (.int (1 : Int32)), (.ref b226)])) rfl rfl (hb hby at_31)
    obtain ⟨v18, hv18⟩ : ∃ z : Nat → Int32, z = (own_up v17 1 p2) := ⟨_, rfl⟩
    have B236n : own_AI Z h236 b226 .int 3 v18 := by rw [hv18]; exact B236
    have Z237 : n0 ≤ h236.size := Nat.le_trans Z232 (Keep.of_wr W236).1
    have K238 : Keep h0 h236 [] := K233.wr W236 (Or.inr sz_b226)
    have N239 := Fr.snoc X236 N234 g_b226
    have hin42_240 : ¬ (2 : Int32) < 0 ∧ (2 : Int32).toNatClampNeg < 3 := by decide
    obtain ⟨T241, h241, X241, e241, W241, B241, st241⟩ := own_stI X236 hx hZ e236 B236n (j := (2 : Int32)) (x := p3) hin42_240 (g := (mkF m 42 #[.val (.int p0), .val (.int p1), .val (.int p2), .val (.int p3), .val (.int p4), .val (.int (3 : Int32)), .val (.ref b226), .unset, .unset, .unset, .unset] [(.int p3), (.int (2 : Int32)), (.ref b226)])) rfl rfl (hb hby at_42)
    obtain ⟨v19, hv19⟩ : ∃ z : Nat → Int32, z = (own_up v18 2 p3) := ⟨_, rfl⟩
    have B241n : own_AI Z h241 b226 .int 3 v19 := by rw [hv19]; exact B241
    have Z242 : n0 ≤ h241.size := Nat.le_trans Z237 (Keep.of_wr W241).1
    have K243 : Keep h0 h241 [] := K238.wr W241 (Or.inr sz_b226)
    have N244 := Fr.snoc X241 N239 g_b226
    obtain ⟨T245, h245, X245, e245, E245, A245, D245, -, st245⟩ := newO X241 hx hZ hown (hw _ (List.mem_of_getElem? (i := 2) rfl)) (hw _ (List.mem_of_getElem? (i := 3) rfl)) (hw _ (List.mem_of_getElem? (i := 4) rfl)) e241 (g := (mkF m 43 #[.val (.int p0), .val (.int p1), .val (.int p2), .val (.int p3), .val (.int p4), .val (.int (3 : Int32)), .val (.ref b226), .unset, .unset, .unset, .unset] [])) rfl (hb hby at_43) (by decide) (by decide)
    obtain ⟨b245, g245⟩ : ∃ z, z = h241.size := ⟨_, rfl⟩
    rw [← g245] at A245 D245 st245
    have ne_b226_b245 : b226 ≠ b245 := Nat.ne_of_lt (Nat.lt_of_lt_of_le B241n.lt (Nat.le_of_eq g245.symm))
    have g_b245 : n0 ≤ b245 := Nat.le_trans Z242 (Nat.le_of_eq g245.symm)
    have sz_b245 : h0.size ≤ b245 := Nat.le_trans K243.1 (Nat.le_of_eq g245.symm)
    have F246 := B241n.ext E245
    have Z247 : n0 ≤ h245.size := Nat.le_trans Z242 E245.1
    have K248 : Keep h0 h245 [] := K243.ext E245
    have F249 : Fld Z h245 b245 "org/tagwright/core/Field" "tag" "Ljava/lang/String;" .null := D245 (Or.inr (hw _ (List.mem_of_getElem? (i := 25) rfl))) (ty := (.object "java/lang/String")) (by decide)
    have F250 : Fld Z h245 b245 "org/tagwright/core/DataField" "indicator1" "B" (.int (0 : Int32)) := D245 (Or.inr (hw _ (List.mem_of_getElem? (i := 27) rfl))) (ty := .byte) (by decide)
    have F251 : Fld Z h245 b245 "org/tagwright/core/DataField" "indicator2" "B" (.int (0 : Int32)) := D245 (Or.inr (hw _ (List.mem_of_getElem? (i := 29) rfl))) (ty := .byte) (by decide)
    have F252 : Fld Z h245 b245 "org/tagwright/core/DataField" "bytes" "[B" .null := D245 (Or.inr (hw _ (List.mem_of_getElem? (i := 31) rfl))) (ty := (.array .byte)) (by decide)
    have F253 : Fld Z h245 b245 "org/tagwright/core/DataField" "from" "I" (.int (0 : Int32)) := D245 (Or.inr (hw _ (List.mem_of_getElem? (i := 33) rfl))) (ty := .int) (by decide)
    have F254 : Fld Z h245 b245 "org/tagwright/core/DataField" "to" "I" (.int (0 : Int32)) := D245 (Or.inr (hw _ (List.mem_of_getElem? (i := 35) rfl))) (ty := .int) (by decide)
    have F255 : Fld Z h245 b245 "org/tagwright/core/DataField" "delimiters" "[I" .null := D245 (Or.inr (hw _ (List.mem_of_getElem? (i := 37) rfl))) (ty := (.array .int)) (by decide)
    obtain ⟨b256, T256, h256, k256, X256, e256, E256, hS256, hk256, hZ, hown, st256⟩ := ldcS (s := s) (vm0 := s.vm) X245 hx hZ hown (hw _ (List.mem_of_getElem? (i := 5) rfl)) (fun d hd => hw d ((by decide +kernel : ∀ d ∈ Bundle.stringAtoms, d ∈ tables_1) d hd)) e245 (State.WarmedH.since (State.WarmedH.refl s) 0) (Nat.zero_le _) (g := (mkF m 47 #[.val (.int p0), .val (.int p1), .val (.int p2), .val (.int p3), .val (.int p4), .val (.int (3 : Int32)), .val (.ref b226), .unset, .unset, .unset, .unset] [(.ref b245), (.ref b245)])) rfl (hb hby at_47) (n := 12) (by decide) (by decide) (by decide) (by decide)
    have F257 := F246.ext E256
    have F258 := A245.ext E256
    have F259 := F249.ext E256
    have F260 := F250.ext E256
    have F261 := F251.ext E256
    have F262 := F252.ext E256
    have F263 := F253.ext E256
    have F264 := F254.ext E256
    have F265 := F255.ext E256
    have Z266 : n0 ≤ h256.size := Nat.le_trans Z247 E256.1
    have K267 : Keep h0 h256 [] := K248.ext E256
    obtain ⟨T268, h268, k268, X268, e268, E268, A268, st268⟩ := newP X256 hx hZ (hw _ (List.mem_of_getElem? (i := 8) rfl)) e256 (g := (mkF m 54 #[.val (.int p0), .val (.int p1), .val (.int p2), .val (.int p3), .val (.int p4), .val (.int (3 : Int32)), .val (.ref b226), .unset, .unset, .unset, .unset] [(.int (0 : Int32)), (.int (48 : Int32)), (.int (49 : Int32)), (.ref b256), (.ref b245), (.ref b245)])) rfl (hb hby at_54) rfl (by decide) (cap := 0) (by decide) (by decide) (by decide) (by decide)
    obtain ⟨b268, g268⟩ : ∃ z, z = h256.size := ⟨_, rfl⟩
    rw [← g268] at A268 st268
    have ne_b226_b268 : b226 ≠ b268 := Nat.ne_of_lt (Nat.lt_of_lt_of_le F257.lt (Nat.le_of_eq g268.symm))
    have ne_b245_b268 : b245 ≠ b268 := Nat.ne_of_lt (Nat.lt_of_lt_of_le F258.lt (Nat.le_of_eq g268.symm))
    have g_b268 : n0 ≤ b268 := Nat.le_trans Z266 (Nat.le_of_eq g268.symm)
    have sz_b268 : h0.size ≤ b268 := Nat.le_trans K267.1 (Nat.le_of_eq g268.symm)
    have F269 := F257.ext E268
    have F270 := F258.ext E268
    have F271 := F259.ext E268
    have F272 := F260.ext E268
    have F273 := F261.ext E268
    have F274 := F262.ext E268
    have F275 := F263.ext E268
    have F276 := F264.ext E268
    have F277 := F265.ext E268
    have Z278 : n0 ≤ h268.size := Nat.le_trans Z266 E268.1
    have Ks279 : k256 ≤ h268.size := Nat.le_trans hk256 E268.1
    have K280 : Keep h0 h268 [] := K267.ext E268
    obtain ⟨v20, hv20⟩ : ∃ z : Nat → Int32, z = (fun _ => (0 : Int32)) := ⟨_, rfl⟩
    have F281 : own_AI Z h268 b268 .byte 0 v20 := by rw [hv20]; exact own_AI.new A268 rfl (by decide)
    obtain ⟨_, _, ⟨T282, L282, k282, n282⟩, -, X282, ⟨Lc282, hQ282, l282, y282, z282⟩, st282⟩ := X268.specialBack hx (y := (⟨"org/tagwright/core/DataField", "<init>", "(Ljava/lang/String;BB[BII[I)V"⟩ : MethodName)) rfl hown (mvT hZ (hw _ (List.mem_of_getElem? (i := 13) rfl))) (mvT hZ (hw _ (List.mem_of_getElem? (i := 14) rfl))) (mvT hZ (hw _ (List.mem_of_getElem? (i := 15) rfl))) (by decide) (backOf (W := 1) (rm1 l Z a0 hw [] b245 b256 (49 : Int32) (48 : Int32) b268 (0 : Int32) p4 b226 .null (0 : Int32) (0 : Int32) .null (0 : Int32) (0 : Int32) .null h268 n0 Z278 F270 F271 F272 F273 F274 F275 F276 F277 g_b245) hZ (hw _ (List.mem_of_getElem? (i := 15) rfl)) (hw _ (List.mem_of_getElem? (i := 4) rfl)) (by decide) (by decide)) (g := (mkF m 61 #[.val (.int p0), .val (.int p1), .val (.int p2), .val (.int p3), .val (.int p4), .val (.int (3 : Int32)), .val (.ref b226), .unset, .unset, .unset, .unset] [(.ref b226), (.int p4), (.int (0 : Int32)), (.ref b268), (.int (48 : Int32)), (.int (49 : Int32)), (.ref b256), (.ref b245), (.ref b245)])) rfl (by rw [hml]; rfl) (Steps.refl _) (a := b245) (argsL := [(.ref b256), (.int (49 : Int32)), (.int (48 : Int32)), (.ref b268), (.int (0 : Int32)), (.int p4), (.ref b226)]) (rest := [(.ref b245)]) (lenOf pd3 rfl) rfl (by show 2 * 0 + _ ≤ _; exact Nat.le_of_eq rfl) (hb hby at_61) (fun _ _ => ⟨rfl, e268, (by decide : 5 + 0 ≤ _), (by decide : 27 + 0 ≤ _)⟩)
    dsimp only [Pt.U, Pt.locs, Pt.cells, Pt.slots] at X282 l282 y282 z282 st282 hQ282
    subst l282 y282 z282
    obtain ⟨rfl, N282q, K282q, F282_0, F282_1, F282_2, F282_3, F282_4, F282_5, F282_6, F282_7⟩ := hQ282
    have F283 := F269.keep K282q (ninS ne_b226_b245 nin0)
    have F284 := F270.keep K282q
    have F285 := F281.keep K282q (ninS (Ne.symm ne_b245_b268) nin0)
    have Ks286 : k256 ≤ T282.heap.size := Nat.le_trans Ks279 K282q.1
    have Z287 : n0 ≤ T282.heap.size := Nat.le_trans Z278 K282q.1
    have K288 : Keep h0 T282.heap [] := K280.trans K282q (allS (Or.inr sz_b245) all0)
    have N282 := Fr.app N244 N282q
    obtain ⟨cq289, kq289, q289a, q289b, q289c⟩ := isOf hZ (rfl : T282.heap = T282.heap) F282_0
    obtain ⟨_, _, ⟨T289, L289, k289, n289⟩, -, X289, ⟨Lc289, hQ289, l289, y289, z289⟩, st289⟩ := X282.virtualBack hx (y := (⟨"org/tagwright/core/DataField", "dataTo", "(I)I"⟩ : MethodName)) (z := (⟨"org/tagwright/core/DataField", "dataTo", "(I)I"⟩ : MethodName)) hown (mvT hZ (hw _ (List.mem_of_getElem? (i := 38) rfl))) (mvT hZ (hw _ (List.mem_of_getElem? (i := 39) rfl))) (notFace_of_selects (args := #[]) (mvT hZ (hw _ (List.mem_of_getElem? (i := 41) rfl)))) (mvT hZ (hw _ (List.mem_of_getElem? (i := 41) rfl))) (mvT hZ (hw _ (List.mem_of_getElem? (i := 40) rfl))) (by decide) (backOf (W := 0) (rm4_3_0 l Z a0 hw [] b245 (0 : Int32) b226 v19 (T282.heap) n0 Z287 F282_7 F283 (by first | assumption | decide : (0 : Int32) = (0 : Int32))) hZ (hw _ (List.mem_of_getElem? (i := 42) rfl)) (hw _ (List.mem_of_getElem? (i := 4) rfl)) (by decide) (by decide)) q289a q289c (g := (mkF m 85 #[.val (.int p0), .val (.int p1), .val (.int p2), .val (.int p3), .val (.int p4), .val (.int (3 : Int32)), .val (.ref b226), .val (.ref b245), .val (.int p2), .unset, .unset] [(.int (0 : Int32)), (.ref b245)])) rfl (by rw [hml]; rfl) (Steps.refl _) (argsL := [(.int (0 : Int32))]) (rest := []) (lenOf pd4 rfl) rfl (by show 2 * 0 + _ ≤ _; exact Nat.le_of_eq rfl) (hb hby at_85) (fun _ _ => ⟨rfl, (rfl : T282.heap = T282.heap), (by decide : 5 + 0 ≤ _), (by decide : 27 + 0 ≤ _)⟩)
    dsimp only [Pt.U, Pt.locs, Pt.cells, Pt.slots] at X289 l289 y289 z289 st289 hQ289
    subst l289 y289 z289
    obtain ⟨rfl, N289q, e289⟩ := hQ289
    have N289 := Fr.app N282 N289q
    obtain ⟨v22, hv22⟩ : ∃ z : Int32, z = (if (v19 1) = p2 then (1 : Int32) else (0 : Int32)) := ⟨_, rfl⟩
    obtain ⟨T292, lc292, X292, N292, e292, st292⟩ := own_mrg (n0 := n0) (h := T282.heap) (g := (mkF m 90 #[.val (.int p0), .val (.int p1), .val (.int p2), .val (.int p3), .val (.int p4), .val (.int (3 : Int32)), .val (.ref b226), .val (.ref b245), .val (.int p2), .unset, .unset] [(.int p2), (.int (v19 1))])) (g' := (mkF m 98 #[.val (.int p0), .val (.int p1), .val (.int p2), .val (.int p3), .val (.int p4), .val (.int (3 : Int32)), .val (.ref b226), .val (.ref b245), .val (.int p2), .unset, .unset] [(.int v22)])) X289 (by
      by_cases hc90_21 : (v19 1) = p2
      · have hgo290 : ∀ t, Steps p.tables e below (T289.setTop (mkF m 98 #[.val (.int p0), .val (.int p1), .val (.int p2), .val (.int p3), .val (.int p4), .val (.int (3 : Int32)), .val (.ref b226), .val (.ref b245), .val (.int p2), .unset, .unset] [(.int (1 : Int32))])) t → Steps p.tables e below (T289.setTop (mkF m 90 #[.val (.int p0), .val (.int p1), .val (.int p2), .val (.int p3), .val (.int p4), .val (.int (3 : Int32)), .val (.ref b226), .val (.ref b245), .val (.int p2), .unset, .unset] [(.int p2), (.int (v19 1))])) t := by
          intro t kt
          show Steps p.tables e below (T289.setTop (mkF m 90 #[.val (.int p0), .val (.int p1), .val (.int p2), .val (.int p3), .val (.int p4), .val (.int (3 : Int32)), .val (.ref b226), .val (.ref b245), .val (.int p2), .unset, .unset] [(.int p2), (.int (v19 1))])) _
          refine XS.icmpNo X289.here hx rfl (hb hby at_90) rfl (teq hc90_21).2 ?_
          show Steps p.tables e below (T289.setTop (mkF m 93 #[.val (.int p0), .val (.int p1), .val (.int p2), .val (.int p3), .val (.int p4), .val (.int (3 : Int32)), .val (.ref b226), .val (.ref b245), .val (.int p2), .unset, .unset] [])) _
          refine XS.iconst X289.here hx rfl (hb hby at_93) ?_
          show Steps p.tables e below (T289.setTop (mkF m 94 #[.val (.int p0), .val (.int p1), .val (.int p2), .val (.int p3), .val (.int p4), .val (.int (3 : Int32)), .val (.ref b226), .val (.ref b245), .val (.int p2), .unset, .unset] [(.int (1 : Int32))])) _
          refine XS.goto X289.here hx rfl (pc0 := 94) (pc' := 98) rfl (hb hby at_94) (by decide) (by decide) ?_
          exact kt
        refine own_arm hgo290 ?_
        exact own_armEnd X289 N289 e289 (by rw [hv22.trans (if_pos hc90_21)])
      · have hgo291 : ∀ t, Steps p.tables e below (T289.setTop (mkF m 98 #[.val (.int p0), .val (.int p1), .val (.int p2), .val (.int p3), .val (.int p4), .val (.int (3 : Int32)), .val (.ref b226), .val (.ref b245), .val (.int p2), .unset, .unset] [(.int (0 : Int32))])) t → Steps p.tables e below (T289.setTop (mkF m 90 #[.val (.int p0), .val (.int p1), .val (.int p2), .val (.int p3), .val (.int p4), .val (.int (3 : Int32)), .val (.ref b226), .val (.ref b245), .val (.int p2), .unset, .unset] [(.int p2), (.int (v19 1))])) t := by
          intro t kt
          show Steps p.tables e below (T289.setTop (mkF m 90 #[.val (.int p0), .val (.int p1), .val (.int p2), .val (.int p3), .val (.int p4), .val (.int (3 : Int32)), .val (.ref b226), .val (.ref b245), .val (.int p2), .unset, .unset] [(.int p2), (.int (v19 1))])) _
          refine XS.icmpYes X289.here hx rfl (pc0 := 90) (pc' := 97) rfl (hb hby at_90) rfl (feq hc90_21).2 (by decide) (by decide) ?_
          show Steps p.tables e below (T289.setTop (mkF m 97 #[.val (.int p0), .val (.int p1), .val (.int p2), .val (.int p3), .val (.int p4), .val (.int (3 : Int32)), .val (.ref b226), .val (.ref b245), .val (.int p2), .unset, .unset] [])) _
          refine XS.iconst X289.here hx rfl (hb hby at_97) ?_
          exact kt
        refine own_arm hgo291 ?_
        exact own_armEnd X289 N289 e289 (by rw [hv22.trans (if_neg hc90_21)]))
    obtain ⟨v25, hv25⟩ : ∃ z : Int32, z = (if (v19 2) = p3 then (1 : Int32) else (0 : Int32)) := ⟨_, rfl⟩
    obtain ⟨v26, hv26⟩ : ∃ z : Int32, z = (if v22 = (0 : Int32) then (0 : Int32) else v25) := ⟨_, rfl⟩
    obtain ⟨T299, lc299, X299, N299, e299, st299⟩ := own_mrg (n0 := n0) (h := T282.heap) (g := (mkF m 124 #[.val (.int p0), .val (.int p1), .val (.int p2), .val (.int p3), .val (.int p4), .val (.int (3 : Int32)), .val (.ref b226), .val (.ref b245), .val (.int p2), .val (.int v22), .val (.int p3)] [(.int v22)])) (g' := (mkF m 143 #[.val (.int p0), .val (.int p1), .val (.int p2), .val (.int p3), .val (.int p4), .val (.int (3 : Int32)), .val (.ref b226), .val (.ref b245), .val (.int p2), .val (.int v22), .val (.int p3)] [(.int v26)])) X292 (by
      by_cases hc124_23 : v22 = (0 : Int32)
      · have hgo293 : ∀ t, Steps p.tables e below (T292.setTop (mkF m 143 #[.val (.int p0), .val (.int p1), .val (.int p2), .val (.int p3), .val (.int p4), .val (.int (3 : Int32)), .val (.ref b226), .val (.ref b245), .val (.int p2), .val (.int v22), .val (.int p3)] [(.int (0 : Int32))])) t → Steps p.tables e below (T292.setTop (mkF m 124 #[.val (.int p0), .val (.int p1), .val (.int p2), .val (.int p3), .val (.int p4), .val (.int (3 : Int32)), .val (.ref b226), .val (.ref b245), .val (.int p2), .val (.int v22), .val (.int p3)] [(.int v22)])) t := by
          intro t kt
          show Steps p.tables e below (T292.setTop (mkF m 124 #[.val (.int p0), .val (.int p1), .val (.int p2), .val (.int p3), .val (.int p4), .val (.int (3 : Int32)), .val (.ref b226), .val (.ref b245), .val (.int p2), .val (.int v22), .val (.int p3)] [(.int v22)])) _
          refine XS.ifYes X292.here hx rfl (pc0 := 124) (pc' := 142) rfl (hb hby at_124) rfl ((if0 _ _).trans (teq hc124_23).1) (by decide) (by decide) ?_
          show Steps p.tables e below (T292.setTop (mkF m 142 #[.val (.int p0), .val (.int p1), .val (.int p2), .val (.int p3), .val (.int p4), .val (.int (3 : Int32)), .val (.ref b226), .val (.ref b245), .val (.int p2), .val (.int v22), .val (.int p3)] [])) _
          refine XS.iconst X292.here hx rfl (hb hby at_142) ?_
          exact kt
        refine own_arm hgo293 ?_
        exact own_armEnd X292 N292 e292 (by rw [hv26.trans (if_pos hc124_23)])
      · obtain ⟨cq294, kq294, q294a, q294b, q294c⟩ := isOf hZ e292 F282_0
        obtain ⟨_, _, ⟨T294, L294, k294, n294⟩, -, X294, ⟨Lc294, hQ294, l294, y294, z294⟩, st294⟩ := X292.virtualBack hx (y := (⟨"org/tagwright/core/DataField", "dataTo", "(I)I"⟩ : MethodName)) (z := (⟨"org/tagwright/core/DataField", "dataTo", "(I)I"⟩ : MethodName)) hown (mvT hZ (hw _ (List.mem_of_getElem? (i := 38) rfl))) (mvT hZ (hw _ (List.mem_of_getElem? (i := 39) rfl))) (notFace_of_selects (args := #[]) (mvT hZ (hw _ (List.mem_of_getElem? (i := 41) rfl)))) (mvT hZ (hw _ (List.mem_of_getElem? (i := 41) rfl))) (mvT hZ (hw _ (List.mem_of_getElem? (i := 40) rfl))) (by decide) (backOf (W := 0) (rm4_3_1 l Z a0 hw [] b245 (1 : Int32) b226 v19 (T282.heap) n0 Z287 F282_7 F283 (by first | assumption | decide : (1 : Int32) = (1 : Int32))) hZ (hw _ (List.mem_of_getElem? (i := 42) rfl)) (hw _ (List.mem_of_getElem? (i := 4) rfl)) (by decide) (by decide)) q294a q294c (g := (mkF m 130 #[.val (.int p0), .val (.int p1), .val (.int p2), .val (.int p3), .val (.int p4), .val (.int (3 : Int32)), .val (.ref b226), .val (.ref b245), .val (.int p2), .val (.int v22), .val (.int p3)] [(.int (1 : Int32)), (.ref b245)])) rfl (by rw [hml]; rfl) (Steps.refl _) (argsL := [(.int (1 : Int32))]) (rest := []) (lenOf pd4 rfl) rfl (by show 2 * 0 + _ ≤ _; exact Nat.le_of_eq rfl) (hb hby at_130) (fun _ _ => ⟨rfl, e292, (by decide : 5 + 0 ≤ _), (by decide : 27 + 0 ≤ _)⟩)
        dsimp only [Pt.U, Pt.locs, Pt.cells, Pt.slots] at X294 l294 y294 z294 st294 hQ294
        subst l294 y294 z294
        obtain ⟨rfl, N294q, e294⟩ := hQ294
        have N294 := Fr.app N292 N294q
        obtain ⟨T297, lc297, X297, N297, e297, st297⟩ := own_mrg (n0 := n0) (h := T282.heap) (g := (mkF m 135 #[.val (.int p0), .val (.int p1), .val (.int p2), .val (.int p3), .val (.int p4), .val (.int (3 : Int32)), .val (.ref b226), .val (.ref b245), .val (.int p2), .val (.int v22), .val (.int p3)] [(.int p3), (.int (v19 2))])) (g' := (mkF m 143 #[.val (.int p0), .val (.int p1), .val (.int p2), .val (.int p3), .val (.int p4), .val (.int (3 : Int32)), .val (.ref b226), .val (.ref b245), .val (.int p2), .val (.int v22), .val (.int p3)] [(.int v25)])) X294 (by
          by_cases hc135_24 : (v19 2) = p3
          · have hgo295 : ∀ t, Steps p.tables e below (T294.setTop (mkF m 143 #[.val (.int p0), .val (.int p1), .val (.int p2), .val (.int p3), .val (.int p4), .val (.int (3 : Int32)), .val (.ref b226), .val (.ref b245), .val (.int p2), .val (.int v22), .val (.int p3)] [(.int (1 : Int32))])) t → Steps p.tables e below (T294.setTop (mkF m 135 #[.val (.int p0), .val (.int p1), .val (.int p2), .val (.int p3), .val (.int p4), .val (.int (3 : Int32)), .val (.ref b226), .val (.ref b245), .val (.int p2), .val (.int v22), .val (.int p3)] [(.int p3), (.int (v19 2))])) t := by
              intro t kt
              show Steps p.tables e below (T294.setTop (mkF m 135 #[.val (.int p0), .val (.int p1), .val (.int p2), .val (.int p3), .val (.int p4), .val (.int (3 : Int32)), .val (.ref b226), .val (.ref b245), .val (.int p2), .val (.int v22), .val (.int p3)] [(.int p3), (.int (v19 2))])) _
              refine XS.icmpNo X294.here hx rfl (hb hby at_135) rfl (teq hc135_24).2 ?_
              show Steps p.tables e below (T294.setTop (mkF m 138 #[.val (.int p0), .val (.int p1), .val (.int p2), .val (.int p3), .val (.int p4), .val (.int (3 : Int32)), .val (.ref b226), .val (.ref b245), .val (.int p2), .val (.int v22), .val (.int p3)] [])) _
              refine XS.iconst X294.here hx rfl (hb hby at_138) ?_
              show Steps p.tables e below (T294.setTop (mkF m 139 #[.val (.int p0), .val (.int p1), .val (.int p2), .val (.int p3), .val (.int p4), .val (.int (3 : Int32)), .val (.ref b226), .val (.ref b245), .val (.int p2), .val (.int v22), .val (.int p3)] [(.int (1 : Int32))])) _
              refine XS.goto X294.here hx rfl (pc0 := 139) (pc' := 143) rfl (hb hby at_139) (by decide) (by decide) ?_
              exact kt
            refine own_arm hgo295 ?_
            exact own_armEnd X294 N294 e294 (by rw [hv25.trans (if_pos hc135_24)])
          · have hgo296 : ∀ t, Steps p.tables e below (T294.setTop (mkF m 143 #[.val (.int p0), .val (.int p1), .val (.int p2), .val (.int p3), .val (.int p4), .val (.int (3 : Int32)), .val (.ref b226), .val (.ref b245), .val (.int p2), .val (.int v22), .val (.int p3)] [(.int (0 : Int32))])) t → Steps p.tables e below (T294.setTop (mkF m 135 #[.val (.int p0), .val (.int p1), .val (.int p2), .val (.int p3), .val (.int p4), .val (.int (3 : Int32)), .val (.ref b226), .val (.ref b245), .val (.int p2), .val (.int v22), .val (.int p3)] [(.int p3), (.int (v19 2))])) t := by
              intro t kt
              show Steps p.tables e below (T294.setTop (mkF m 135 #[.val (.int p0), .val (.int p1), .val (.int p2), .val (.int p3), .val (.int p4), .val (.int (3 : Int32)), .val (.ref b226), .val (.ref b245), .val (.int p2), .val (.int v22), .val (.int p3)] [(.int p3), (.int (v19 2))])) _
              refine XS.icmpYes X294.here hx rfl (pc0 := 135) (pc' := 142) rfl (hb hby at_135) rfl (feq hc135_24).2 (by decide) (by decide) ?_
              show Steps p.tables e below (T294.setTop (mkF m 142 #[.val (.int p0), .val (.int p1), .val (.int p2), .val (.int p3), .val (.int p4), .val (.int (3 : Int32)), .val (.ref b226), .val (.ref b245), .val (.int p2), .val (.int v22), .val (.int p3)] [])) _
              refine XS.iconst X294.here hx rfl (hb hby at_142) ?_
              exact kt
            refine own_arm hgo296 ?_
            exact own_armEnd X294 N294 e294 (by rw [hv25.trans (if_neg hc135_24)]))
        have hgo298 : ∀ t, Steps p.tables e below (T297.setTop (mkF m 143 #[.val (.int p0), .val (.int p1), .val (.int p2), .val (.int p3), .val (.int p4), .val (.int (3 : Int32)), .val (.ref b226), .val (.ref b245), .val (.int p2), .val (.int v22), .val (.int p3)] [(.int v25)])) t → Steps p.tables e below (T292.setTop (mkF m 124 #[.val (.int p0), .val (.int p1), .val (.int p2), .val (.int p3), .val (.int p4), .val (.int (3 : Int32)), .val (.ref b226), .val (.ref b245), .val (.int p2), .val (.int v22), .val (.int p3)] [(.int v22)])) t := by
          intro t kt
          show Steps p.tables e below (T292.setTop (mkF m 124 #[.val (.int p0), .val (.int p1), .val (.int p2), .val (.int p3), .val (.int p4), .val (.int (3 : Int32)), .val (.ref b226), .val (.ref b245), .val (.int p2), .val (.int v22), .val (.int p3)] [(.int v22)])) _
          refine XS.ifNo X292.here hx rfl (hb hby at_124) rfl ((if0 _ _).trans (feq hc124_23).1) ?_
          show Steps p.tables e below (T292.setTop (mkF m 127 #[.val (.int p0), .val (.int p1), .val (.int p2), .val (.int p3), .val (.int p4), .val (.int (3 : Int32)), .val (.ref b226), .val (.ref b245), .val (.int p2), .val (.int v22), .val (.int p3)] [])) _
          refine XS.aload X292.here hx rfl (hb hby at_127) rfl rfl ?_
          show Steps p.tables e below (T292.setTop (mkF m 129 #[.val (.int p0), .val (.int p1), .val (.int p2), .val (.int p3), .val (.int p4), .val (.int (3 : Int32)), .val (.ref b226), .val (.ref b245), .val (.int p2), .val (.int v22), .val (.int p3)] [(.ref b245)])) _
          refine XS.iconst X292.here hx rfl (hb hby at_129) ?_
          show Steps p.tables e below (T292.setTop (mkF m 130 #[.val (.int p0), .val (.int p1), .val (.int p2), .val (.int p3), .val (.int p4), .val (.int (3 : Int32)), .val (.ref b226), .val (.ref b245), .val (.int p2), .val (.int v22), .val (.int p3)] [(.int (1 : Int32)), (.ref b245)])) _
          refine st294.trans ?_
          show Steps p.tables e below (T294.setTop (mkF m 133 #[.val (.int p0), .val (.int p1), .val (.int p2), .val (.int p3), .val (.int p4), .val (.int (3 : Int32)), .val (.ref b226), .val (.ref b245), .val (.int p2), .val (.int v22), .val (.int p3)] [(.int (v19 2))])) _
          refine XS.iload X294.here hx rfl (hb hby at_133) rfl ?_
          show Steps p.tables e below (T294.setTop (mkF m 135 #[.val (.int p0), .val (.int p1), .val (.int p2), .val (.int p3), .val (.int p4), .val (.int (3 : Int32)), .val (.ref b226), .val (.ref b245), .val (.int p2), .val (.int v22), .val (.int p3)] [(.int p3), (.int (v19 2))])) _
          refine st297 _ ?_
          exact kt
        refine own_arm hgo298 ?_
        exact own_armEnd X297 N297 e297 (by rw [hv26.trans (if_neg hc124_23)]))
    obtain ⟨v28, hv28⟩ : ∃ z : Int32, z = (if v26 = (0 : Int32) then (0 : Int32) else (1 : Int32)) := ⟨_, rfl⟩
    obtain ⟨T303, lc303, X303, N303, e303, st303⟩ := own_mrg (n0 := n0) (h := T282.heap) (g := (mkF m 153 #[.val (.int p0), .val (.int p1), .val (.int p2), .val (.int p3), .val (.int p4), .val (.int (3 : Int32)), .val (.ref b226), .val (.ref b245), .val (.int p2), .val (.int v26), .val (.int p3)] [(.int v26)])) (g' := (mkF m 172 #[.val (.int p0), .val (.int p1), .val (.int p2), .val (.int p3), .val (.int p4), .val (.int (3 : Int32)), .val (.ref b226), .val (.ref b245), .val (.int p2), .val (.int v26), .val (.int p3)] [(.int v28)])) X299 (by
      by_cases hc153_27 : v26 = (0 : Int32)
      · have hgo300 : ∀ t, Steps p.tables e below (T299.setTop (mkF m 172 #[.val (.int p0), .val (.int p1), .val (.int p2), .val (.int p3), .val (.int p4), .val (.int (3 : Int32)), .val (.ref b226), .val (.ref b245), .val (.int p2), .val (.int v26), .val (.int p3)] [(.int (0 : Int32))])) t → Steps p.tables e below (T299.setTop (mkF m 153 #[.val (.int p0), .val (.int p1), .val (.int p2), .val (.int p3), .val (.int p4), .val (.int (3 : Int32)), .val (.ref b226), .val (.ref b245), .val (.int p2), .val (.int v26), .val (.int p3)] [(.int v26)])) t := by
          intro t kt
          show Steps p.tables e below (T299.setTop (mkF m 153 #[.val (.int p0), .val (.int p1), .val (.int p2), .val (.int p3), .val (.int p4), .val (.int (3 : Int32)), .val (.ref b226), .val (.ref b245), .val (.int p2), .val (.int v26), .val (.int p3)] [(.int v26)])) _
          refine XS.ifYes X299.here hx rfl (pc0 := 153) (pc' := 171) rfl (hb hby at_153) rfl ((if0 _ _).trans (teq hc153_27).1) (by decide) (by decide) ?_
          show Steps p.tables e below (T299.setTop (mkF m 171 #[.val (.int p0), .val (.int p1), .val (.int p2), .val (.int p3), .val (.int p4), .val (.int (3 : Int32)), .val (.ref b226), .val (.ref b245), .val (.int p2), .val (.int v26), .val (.int p3)] [])) _
          refine XS.iconst X299.here hx rfl (hb hby at_171) ?_
          exact kt
        refine own_arm hgo300 ?_
        exact own_armEnd X299 N299 e299 (by rw [hv28.trans (if_pos hc153_27)])
      · obtain ⟨cq301, kq301, q301a, q301b, q301c⟩ := isOf hZ e299 F282_0
        obtain ⟨_, _, ⟨T301, L301, k301, n301⟩, -, X301, ⟨Lc301, hQ301, l301, y301, z301⟩, st301⟩ := X299.virtualBack hx (y := (⟨"org/tagwright/core/DataField", "dataTo", "(I)I"⟩ : MethodName)) (z := (⟨"org/tagwright/core/DataField", "dataTo", "(I)I"⟩ : MethodName)) hown (mvT hZ (hw _ (List.mem_of_getElem? (i := 38) rfl))) (mvT hZ (hw _ (List.mem_of_getElem? (i := 39) rfl))) (notFace_of_selects (args := #[]) (mvT hZ (hw _ (List.mem_of_getElem? (i := 41) rfl)))) (mvT hZ (hw _ (List.mem_of_getElem? (i := 41) rfl))) (mvT hZ (hw _ (List.mem_of_getElem? (i := 40) rfl))) (by decide) (backOf (W := 0) (rm4_3_2 l Z a0 hw [] b245 (2 : Int32) b226 v19 p4 (T282.heap) n0 Z287 F282_7 F283 (by first | assumption | decide : (2 : Int32) = (2 : Int32)) F282_6) hZ (hw _ (List.mem_of_getElem? (i := 42) rfl)) (hw _ (List.mem_of_getElem? (i := 4) rfl)) (by decide) (by decide)) q301a q301c (g := (mkF m 159 #[.val (.int p0), .val (.int p1), .val (.int p2), .val (.int p3), .val (.int p4), .val (.int (3 : Int32)), .val (.ref b226), .val (.ref b245), .val (.int p2), .val (.int v26), .val (.int p3)] [(.int (2 : Int32)), (.ref b245)])) rfl (by rw [hml]; rfl) (Steps.refl _) (argsL := [(.int (2 : Int32))]) (rest := []) (lenOf pd4 rfl) rfl (by show 2 * 0 + _ ≤ _; exact Nat.le_of_eq rfl) (hb hby at_159) (fun _ _ => ⟨rfl, e299, (by decide : 5 + 0 ≤ _), (by decide : 27 + 0 ≤ _)⟩)
        dsimp only [Pt.U, Pt.locs, Pt.cells, Pt.slots] at X301 l301 y301 z301 st301 hQ301
        subst l301 y301 z301
        obtain ⟨rfl, N301q, e301⟩ := hQ301
        have N301 := Fr.app N299 N301q
        have hgo302 : ∀ t, Steps p.tables e below (T301.setTop (mkF m 172 #[.val (.int p0), .val (.int p1), .val (.int p2), .val (.int p3), .val (.int p4), .val (.int (3 : Int32)), .val (.ref b226), .val (.ref b245), .val (.int p2), .val (.int v26), .val (.int p3)] [(.int (1 : Int32))])) t → Steps p.tables e below (T299.setTop (mkF m 153 #[.val (.int p0), .val (.int p1), .val (.int p2), .val (.int p3), .val (.int p4), .val (.int (3 : Int32)), .val (.ref b226), .val (.ref b245), .val (.int p2), .val (.int v26), .val (.int p3)] [(.int v26)])) t := by
          intro t kt
          show Steps p.tables e below (T299.setTop (mkF m 153 #[.val (.int p0), .val (.int p1), .val (.int p2), .val (.int p3), .val (.int p4), .val (.int (3 : Int32)), .val (.ref b226), .val (.ref b245), .val (.int p2), .val (.int v26), .val (.int p3)] [(.int v26)])) _
          refine XS.ifNo X299.here hx rfl (hb hby at_153) rfl ((if0 _ _).trans (feq hc153_27).1) ?_
          show Steps p.tables e below (T299.setTop (mkF m 156 #[.val (.int p0), .val (.int p1), .val (.int p2), .val (.int p3), .val (.int p4), .val (.int (3 : Int32)), .val (.ref b226), .val (.ref b245), .val (.int p2), .val (.int v26), .val (.int p3)] [])) _
          refine XS.aload X299.here hx rfl (hb hby at_156) rfl rfl ?_
          show Steps p.tables e below (T299.setTop (mkF m 158 #[.val (.int p0), .val (.int p1), .val (.int p2), .val (.int p3), .val (.int p4), .val (.int (3 : Int32)), .val (.ref b226), .val (.ref b245), .val (.int p2), .val (.int v26), .val (.int p3)] [(.ref b245)])) _
          refine XS.iconst X299.here hx rfl (hb hby at_158) ?_
          show Steps p.tables e below (T299.setTop (mkF m 159 #[.val (.int p0), .val (.int p1), .val (.int p2), .val (.int p3), .val (.int p4), .val (.int (3 : Int32)), .val (.ref b226), .val (.ref b245), .val (.int p2), .val (.int v26), .val (.int p3)] [(.int (2 : Int32)), (.ref b245)])) _
          refine st301.trans ?_
          show Steps p.tables e below (T301.setTop (mkF m 162 #[.val (.int p0), .val (.int p1), .val (.int p2), .val (.int p3), .val (.int p4), .val (.int (3 : Int32)), .val (.ref b226), .val (.ref b245), .val (.int p2), .val (.int v26), .val (.int p3)] [(.int p4)])) _
          refine XS.iload X301.here hx rfl (hb hby at_162) rfl ?_
          show Steps p.tables e below (T301.setTop (mkF m 164 #[.val (.int p0), .val (.int p1), .val (.int p2), .val (.int p3), .val (.int p4), .val (.int (3 : Int32)), .val (.ref b226), .val (.ref b245), .val (.int p2), .val (.int v26), .val (.int p3)] [(.int p4), (.int p4)])) _
          refine XS.icmpNo X301.here hx rfl (hb hby at_164) rfl (teq (rfl : p4 = p4)).2 ?_
          show Steps p.tables e below (T301.setTop (mkF m 167 #[.val (.int p0), .val (.int p1), .val (.int p2), .val (.int p3), .val (.int p4), .val (.int (3 : Int32)), .val (.ref b226), .val (.ref b245), .val (.int p2), .val (.int v26), .val (.int p3)] [])) _
          refine XS.iconst X301.here hx rfl (hb hby at_167) ?_
          show Steps p.tables e below (T301.setTop (mkF m 168 #[.val (.int p0), .val (.int p1), .val (.int p2), .val (.int p3), .val (.int p4), .val (.int (3 : Int32)), .val (.ref b226), .val (.ref b245), .val (.int p2), .val (.int v26), .val (.int p3)] [(.int (1 : Int32))])) _
          refine XS.goto X301.here hx rfl (pc0 := 168) (pc' := 172) rfl (hb hby at_168) (by decide) (by decide) ?_
          exact kt
        refine own_arm hgo302 ?_
        exact own_armEnd X301 N301 e301 (by rw [hv28.trans (if_neg hc153_27)]))
    have hgo304 : ∀ t, Steps p.tables e below (T303.setTop (mkF m 176 #[.val (.int p0), .val (.int p1), .val (.int p2), .val (.int p3), .val (.int p4), .val (.int (3 : Int32)), .val (.ref b226), .val (.ref b245), .val (.int p2), .val (.int v28), .val (.int p3)] [(.int v28)])) t → Steps p.tables e below (s₁.setTop (mkF m 10 #[.val (.int p0), .val (.int p1), .val (.int p2), .val (.int p3), .val (.int p4), .val (.int v1), .unset, .unset, .unset, .unset, .unset] [])) t := by
      intro t kt
      show Steps p.tables e below (s₁.setTop (mkF m 10 #[.val (.int p0), .val (.int p1), .val (.int p2), .val (.int p3), .val (.int p4), .val (.int v1), .unset, .unset, .unset, .unset, .unset] [])) _
      rw [hs10_15]
      show Steps p.tables e below (s₁.setTop (mkF m 10 #[.val (.int p0), .val (.int p1), .val (.int p2), .val (.int p3), .val (.int p4), .val (.int (3 : Int32)), .unset, .unset, .unset, .unset, .unset] [])) _
      refine XS.iload X0.here hx rfl (hb hby at_10) rfl ?_
      show Steps p.tables e below (s₁.setTop (mkF m 12 #[.val (.int p0), .val (.int p1), .val (.int p2), .val (.int p3), .val (.int p4), .val (.int (3 : Int32)), .unset, .unset, .unset, .unset, .unset] [(.int (3 : Int32))])) _
      refine st226 _ ?_
      show Steps p.tables e below (T226.setTop (mkF m 14 #[.val (.int p0), .val (.int p1), .val (.int p2), .val (.int p3), .val (.int p4), .val (.int (3 : Int32)), .unset, .unset, .unset, .unset, .unset] [(.ref b226)])) _
      refine XS.astore X226.here hx rfl (hb hby at_14) rfl rfl (l' := #[.val (.int p0), .val (.int p1), .val (.int p2), .val (.int p3), .val (.int p4), .val (.int (3 : Int32)), .val (.ref b226), .unset, .unset, .unset, .unset]) rfl ?_
      show Steps p.tables e below (T226.setTop (mkF m 16 #[.val (.int p0), .val (.int p1), .val (.int p2), .val (.int p3), .val (.int p4), .val (.int (3 : Int32)), .val (.ref b226), .unset, .unset, .unset, .unset] [])) _
      refine XS.aload X226.here hx rfl (hb hby at_16) rfl rfl ?_
      show Steps p.tables e below (T226.setTop (mkF m 18 #[.val (.int p0), .val (.int p1), .val (.int p2), .val (.int p3), .val (.int p4), .val (.int (3 : Int32)), .val (.ref b226), .unset, .unset, .unset, .unset] [(.ref b226)])) _
      refine XS.iconst X226.here hx rfl (hb hby at_18) ?_
      show Steps p.tables e below (T226.setTop (mkF m 19 #[.val (.int p0), .val (.int p1), .val (.int p2), .val (.int p3), .val (.int p4), .val (.int (3 : Int32)), .val (.ref b226), .unset, .unset, .unset, .unset] [(.int (0 : Int32)), (.ref b226)])) _
      refine XS.iloadN X226.here hx rfl (hb hby at_19) rfl ?_
      show Steps p.tables e below (T226.setTop (mkF m 20 #[.val (.int p0), .val (.int p1), .val (.int p2), .val (.int p3), .val (.int p4), .val (.int (3 : Int32)), .val (.ref b226), .unset, .unset, .unset, .unset] [(.int p1), (.int (0 : Int32)), (.ref b226)])) _
      refine st231 _ ?_
      show Steps p.tables e below (T231.setTop (mkF m 21 #[.val (.int p0), .val (.int p1), .val (.int p2), .val (.int p3), .val (.int p4), .val (.int (3 : Int32)), .val (.ref b226), .unset, .unset, .unset, .unset] [])) _
      refine XS.iload X231.here hx rfl (hb hby at_21) rfl ?_
      show Steps p.tables e below (T231.setTop (mkF m 23 #[.val (.int p0), .val (.int p1), .val (.int p2), .val (.int p3), .val (.int p4), .val (.int (3 : Int32)), .val (.ref b226), .unset, .unset, .unset, .unset] [(.int (3 : Int32))])) _
      refine XS.iconst X231.here hx rfl (hb hby at_23) ?_
      show Steps p.tables e below (T231.setTop (mkF m 24 #[.val (.int p0), .val (.int p1), .val (.int p2), .val (.int p3), .val (.int p4), .val (.int (3 : Int32)), .val (.ref b226), .unset, .unset, .unset, .unset] [(.int (1 : Int32)), (.int (3 : Int32))])) _
      refine XS.icmpNo X231.here hx rfl (hb hby at_24) rfl (tlt (by decide : (1 : Int32) < (3 : Int32))).2.2.2 ?_
      show Steps p.tables e below (T231.setTop (mkF m 27 #[.val (.int p0), .val (.int p1), .val (.int p2), .val (.int p3), .val (.int p4), .val (.int (3 : Int32)), .val (.ref b226), .unset, .unset, .unset, .unset] [])) _
      refine XS.aload X231.here hx rfl (hb hby at_27) rfl rfl ?_
      show Steps p.tables e below (T231.setTop (mkF m 29 #[.val (.int p0), .val (.int p1), .val (.int p2), .val (.int p3), .val (.int p4), .val (.int (3 : Int32)), .val (.ref b226), .unset, .unset, .unset, .unset] [(.ref b226)])) _
      refine XS.iconst X231.here hx rfl (hb hby at_29) ?_
      show Steps p.tables e below (T231.setTop (mkF m 30 #[.val (.int p0), .val (.int p1), .val (.int p2), .val (.int p3), .val (.int p4), .val (.int (3 : Int32)), .val (.ref b226), .unset, .unset, .unset, .unset] [(.int (1 : Int32)), (.ref b226)])) _
      refine XS.iloadN X231.here hx rfl (hb hby at_30) rfl ?_
      show Steps p.tables e below (T231.setTop (mkF m 31 #[.val (.int p0), .val (.int p1), .val (.int p2), .val (.int p3), .val (.int p4), .val (.int (3 : Int32)), .val (.ref b226), .unset, .unset, .unset, .unset] [(.int p2), (.int (1 : Int32)), (.ref b226)])) _
      refine st236 _ ?_
      show Steps p.tables e below (T236.setTop (mkF m 32 #[.val (.int p0), .val (.int p1), .val (.int p2), .val (.int p3), .val (.int p4), .val (.int (3 : Int32)), .val (.ref b226), .unset, .unset, .unset, .unset] [])) _
      refine XS.iload X236.here hx rfl (hb hby at_32) rfl ?_
      show Steps p.tables e below (T236.setTop (mkF m 34 #[.val (.int p0), .val (.int p1), .val (.int p2), .val (.int p3), .val (.int p4), .val (.int (3 : Int32)), .val (.ref b226), .unset, .unset, .unset, .unset] [(.int (3 : Int32))])) _
      refine XS.iconst X236.here hx rfl (hb hby at_34) ?_
      show Steps p.tables e below (T236.setTop (mkF m 35 #[.val (.int p0), .val (.int p1), .val (.int p2), .val (.int p3), .val (.int p4), .val (.int (3 : Int32)), .val (.ref b226), .unset, .unset, .unset, .unset] [(.int (2 : Int32)), (.int (3 : Int32))])) _
      refine XS.icmpNo X236.here hx rfl (hb hby at_35) rfl (tlt (by decide : (2 : Int32) < (3 : Int32))).2.2.2 ?_
      show Steps p.tables e below (T236.setTop (mkF m 38 #[.val (.int p0), .val (.int p1), .val (.int p2), .val (.int p3), .val (.int p4), .val (.int (3 : Int32)), .val (.ref b226), .unset, .unset, .unset, .unset] [])) _
      refine XS.aload X236.here hx rfl (hb hby at_38) rfl rfl ?_
      show Steps p.tables e below (T236.setTop (mkF m 40 #[.val (.int p0), .val (.int p1), .val (.int p2), .val (.int p3), .val (.int p4), .val (.int (3 : Int32)), .val (.ref b226), .unset, .unset, .unset, .unset] [(.ref b226)])) _
      refine XS.iconst X236.here hx rfl (hb hby at_40) ?_
      show Steps p.tables e below (T236.setTop (mkF m 41 #[.val (.int p0), .val (.int p1), .val (.int p2), .val (.int p3), .val (.int p4), .val (.int (3 : Int32)), .val (.ref b226), .unset, .unset, .unset, .unset] [(.int (2 : Int32)), (.ref b226)])) _
      refine XS.iloadN X236.here hx rfl (hb hby at_41) rfl ?_
      show Steps p.tables e below (T236.setTop (mkF m 42 #[.val (.int p0), .val (.int p1), .val (.int p2), .val (.int p3), .val (.int p4), .val (.int (3 : Int32)), .val (.ref b226), .unset, .unset, .unset, .unset] [(.int p3), (.int (2 : Int32)), (.ref b226)])) _
      refine st241 _ ?_
      show Steps p.tables e below (T241.setTop (mkF m 43 #[.val (.int p0), .val (.int p1), .val (.int p2), .val (.int p3), .val (.int p4), .val (.int (3 : Int32)), .val (.ref b226), .unset, .unset, .unset, .unset] [])) _
      refine st245 _ ?_
      show Steps p.tables e below (T245.setTop (mkF m 46 #[.val (.int p0), .val (.int p1), .val (.int p2), .val (.int p3), .val (.int p4), .val (.int (3 : Int32)), .val (.ref b226), .unset, .unset, .unset, .unset] [(.ref b245)])) _
      refine XS.dup X245.here hx rfl (hb hby at_46) rfl rfl ?_
      show Steps p.tables e below (T245.setTop (mkF m 47 #[.val (.int p0), .val (.int p1), .val (.int p2), .val (.int p3), .val (.int p4), .val (.int (3 : Int32)), .val (.ref b226), .unset, .unset, .unset, .unset] [(.ref b245), (.ref b245)])) _
      refine st256 _ ?_
      show Steps p.tables e below (T256.setTop (mkF m 49 #[.val (.int p0), .val (.int p1), .val (.int p2), .val (.int p3), .val (.int p4), .val (.int (3 : Int32)), .val (.ref b226), .unset, .unset, .unset, .unset] [(.ref b256), (.ref b245), (.ref b245)])) _
      refine XS.bipush X256.here hx rfl (hb hby at_49) ?_
      show Steps p.tables e below (T256.setTop (mkF m 51 #[.val (.int p0), .val (.int p1), .val (.int p2), .val (.int p3), .val (.int p4), .val (.int (3 : Int32)), .val (.ref b226), .unset, .unset, .unset, .unset] [(.int (49 : Int32)), (.ref b256), (.ref b245), (.ref b245)])) _
      refine XS.bipush X256.here hx rfl (hb hby at_51) ?_
      show Steps p.tables e below (T256.setTop (mkF m 53 #[.val (.int p0), .val (.int p1), .val (.int p2), .val (.int p3), .val (.int p4), .val (.int (3 : Int32)), .val (.ref b226), .unset, .unset, .unset, .unset] [(.int (48 : Int32)), (.int (49 : Int32)), (.ref b256), (.ref b245), (.ref b245)])) _
      refine XS.iconst X256.here hx rfl (hb hby at_53) ?_
      show Steps p.tables e below (T256.setTop (mkF m 54 #[.val (.int p0), .val (.int p1), .val (.int p2), .val (.int p3), .val (.int p4), .val (.int (3 : Int32)), .val (.ref b226), .unset, .unset, .unset, .unset] [(.int (0 : Int32)), (.int (48 : Int32)), (.int (49 : Int32)), (.ref b256), (.ref b245), (.ref b245)])) _
      refine st268 _ ?_
      show Steps p.tables e below (T268.setTop (mkF m 56 #[.val (.int p0), .val (.int p1), .val (.int p2), .val (.int p3), .val (.int p4), .val (.int (3 : Int32)), .val (.ref b226), .unset, .unset, .unset, .unset] [(.ref b268), (.int (48 : Int32)), (.int (49 : Int32)), (.ref b256), (.ref b245), (.ref b245)])) _
      refine XS.iconst X268.here hx rfl (hb hby at_56) ?_
      show Steps p.tables e below (T268.setTop (mkF m 57 #[.val (.int p0), .val (.int p1), .val (.int p2), .val (.int p3), .val (.int p4), .val (.int (3 : Int32)), .val (.ref b226), .unset, .unset, .unset, .unset] [(.int (0 : Int32)), (.ref b268), (.int (48 : Int32)), (.int (49 : Int32)), (.ref b256), (.ref b245), (.ref b245)])) _
      refine XS.iload X268.here hx rfl (hb hby at_57) rfl ?_
      show Steps p.tables e below (T268.setTop (mkF m 59 #[.val (.int p0), .val (.int p1), .val (.int p2), .val (.int p3), .val (.int p4), .val (.int (3 : Int32)), .val (.ref b226), .unset, .unset, .unset, .unset] [(.int p4), (.int (0 : Int32)), (.ref b268), (.int (48 : Int32)), (.int (49 : Int32)), (.ref b256), (.ref b245), (.ref b245)])) _
      refine XS.aload X268.here hx rfl (hb hby at_59) rfl rfl ?_
      show Steps p.tables e below (T268.setTop (mkF m 61 #[.val (.int p0), .val (.int p1), .val (.int p2), .val (.int p3), .val (.int p4), .val (.int (3 : Int32)), .val (.ref b226), .unset, .unset, .unset, .unset] [(.ref b226), (.int p4), (.int (0 : Int32)), (.ref b268), (.int (48 : Int32)), (.int (49 : Int32)), (.ref b256), (.ref b245), (.ref b245)])) _
      refine st282.trans ?_
      show Steps p.tables e below (T282.setTop (mkF m 64 #[.val (.int p0), .val (.int p1), .val (.int p2), .val (.int p3), .val (.int p4), .val (.int (3 : Int32)), .val (.ref b226), .unset, .unset, .unset, .unset] [(.ref b245)])) _
      refine XS.astore X282.here hx rfl (hb hby at_64) rfl rfl (l' := #[.val (.int p0), .val (.int p1), .val (.int p2), .val (.int p3), .val (.int p4), .val (.int (3 : Int32)), .val (.ref b226), .val (.ref b245), .unset, .unset, .unset]) rfl ?_
      show Steps p.tables e below (T282.setTop (mkF m 66 #[.val (.int p0), .val (.int p1), .val (.int p2), .val (.int p3), .val (.int p4), .val (.int (3 : Int32)), .val (.ref b226), .val (.ref b245), .unset, .unset, .unset] [])) _
      refine XS.iload X282.here hx rfl (hb hby at_66) rfl ?_
      show Steps p.tables e below (T282.setTop (mkF m 68 #[.val (.int p0), .val (.int p1), .val (.int p2), .val (.int p3), .val (.int p4), .val (.int (3 : Int32)), .val (.ref b226), .val (.ref b245), .unset, .unset, .unset] [(.int (3 : Int32))])) _
      refine XS.iconst X282.here hx rfl (hb hby at_68) ?_
      show Steps p.tables e below (T282.setTop (mkF m 69 #[.val (.int p0), .val (.int p1), .val (.int p2), .val (.int p3), .val (.int p4), .val (.int (3 : Int32)), .val (.ref b226), .val (.ref b245), .unset, .unset, .unset] [(.int (1 : Int32)), (.int (3 : Int32))])) _
      refine XS.icmpYes X282.here hx rfl (pc0 := 69) (pc' := 79) rfl (hb hby at_69) rfl (feq (by decide : ¬ ((3 : Int32) = (1 : Int32)))).2 (by decide) (by decide) ?_
      show Steps p.tables e below (T282.setTop (mkF m 79 #[.val (.int p0), .val (.int p1), .val (.int p2), .val (.int p3), .val (.int p4), .val (.int (3 : Int32)), .val (.ref b226), .val (.ref b245), .unset, .unset, .unset] [])) _
      refine XS.iloadN X282.here hx rfl (hb hby at_79) rfl ?_
      show Steps p.tables e below (T282.setTop (mkF m 80 #[.val (.int p0), .val (.int p1), .val (.int p2), .val (.int p3), .val (.int p4), .val (.int (3 : Int32)), .val (.ref b226), .val (.ref b245), .unset, .unset, .unset] [(.int p2)])) _
      refine XS.istore X282.here hx rfl (hb hby at_80) rfl (l' := #[.val (.int p0), .val (.int p1), .val (.int p2), .val (.int p3), .val (.int p4), .val (.int (3 : Int32)), .val (.ref b226), .val (.ref b245), .val (.int p2), .unset, .unset]) rfl ?_
      show Steps p.tables e below (T282.setTop (mkF m 82 #[.val (.int p0), .val (.int p1), .val (.int p2), .val (.int p3), .val (.int p4), .val (.int (3 : Int32)), .val (.ref b226), .val (.ref b245), .val (.int p2), .unset, .unset] [])) _
      refine XS.aload X282.here hx rfl (hb hby at_82) rfl rfl ?_
      show Steps p.tables e below (T282.setTop (mkF m 84 #[.val (.int p0), .val (.int p1), .val (.int p2), .val (.int p3), .val (.int p4), .val (.int (3 : Int32)), .val (.ref b226), .val (.ref b245), .val (.int p2), .unset, .unset] [(.ref b245)])) _
      refine XS.iconst X282.here hx rfl (hb hby at_84) ?_
      show Steps p.tables e below (T282.setTop (mkF m 85 #[.val (.int p0), .val (.int p1), .val (.int p2), .val (.int p3), .val (.int p4), .val (.int (3 : Int32)), .val (.ref b226), .val (.ref b245), .val (.int p2), .unset, .unset] [(.int (0 : Int32)), (.ref b245)])) _
      refine st289.trans ?_
      show Steps p.tables e below (T289.setTop (mkF m 88 #[.val (.int p0), .val (.int p1), .val (.int p2), .val (.int p3), .val (.int p4), .val (.int (3 : Int32)), .val (.ref b226), .val (.ref b245), .val (.int p2), .unset, .unset] [(.int (v19 1))])) _
      refine XS.iload X289.here hx rfl (hb hby at_88) rfl ?_
      show Steps p.tables e below (T289.setTop (mkF m 90 #[.val (.int p0), .val (.int p1), .val (.int p2), .val (.int p3), .val (.int p4), .val (.int (3 : Int32)), .val (.ref b226), .val (.ref b245), .val (.int p2), .unset, .unset] [(.int p2), (.int (v19 1))])) _
      refine st292 _ ?_
      show Steps p.tables e below (T292.setTop (mkF m 98 #[.val (.int p0), .val (.int p1), .val (.int p2), .val (.int p3), .val (.int p4), .val (.int (3 : Int32)), .val (.ref b226), .val (.ref b245), .val (.int p2), .unset, .unset] [(.int v22)])) _
      refine XS.istore X292.here hx rfl (hb hby at_98) rfl (l' := #[.val (.int p0), .val (.int p1), .val (.int p2), .val (.int p3), .val (.int p4), .val (.int (3 : Int32)), .val (.ref b226), .val (.ref b245), .val (.int p2), .val (.int v22), .unset]) rfl ?_
      show Steps p.tables e below (T292.setTop (mkF m 100 #[.val (.int p0), .val (.int p1), .val (.int p2), .val (.int p3), .val (.int p4), .val (.int (3 : Int32)), .val (.ref b226), .val (.ref b245), .val (.int p2), .val (.int v22), .unset] [])) _
      refine XS.iload X292.here hx rfl (hb hby at_100) rfl ?_
      show Steps p.tables e below (T292.setTop (mkF m 102 #[.val (.int p0), .val (.int p1), .val (.int p2), .val (.int p3), .val (.int p4), .val (.int (3 : Int32)), .val (.ref b226), .val (.ref b245), .val (.int p2), .val (.int v22), .unset] [(.int (3 : Int32))])) _
      refine XS.iconst X292.here hx rfl (hb hby at_102) ?_
      show Steps p.tables e below (T292.setTop (mkF m 103 #[.val (.int p0), .val (.int p1), .val (.int p2), .val (.int p3), .val (.int p4), .val (.int (3 : Int32)), .val (.ref b226), .val (.ref b245), .val (.int p2), .val (.int v22), .unset] [(.int (2 : Int32)), (.int (3 : Int32))])) _
      refine XS.icmpNo X292.here hx rfl (hb hby at_103) rfl (flt (by decide : ¬ ((3 : Int32) < (2 : Int32)))).1 ?_
      show Steps p.tables e below (T292.setTop (mkF m 106 #[.val (.int p0), .val (.int p1), .val (.int p2), .val (.int p3), .val (.int p4), .val (.int (3 : Int32)), .val (.ref b226), .val (.ref b245), .val (.int p2), .val (.int v22), .unset] [])) _
      refine XS.iload X292.here hx rfl (hb hby at_106) rfl ?_
      show Steps p.tables e below (T292.setTop (mkF m 108 #[.val (.int p0), .val (.int p1), .val (.int p2), .val (.int p3), .val (.int p4), .val (.int (3 : Int32)), .val (.ref b226), .val (.ref b245), .val (.int p2), .val (.int v22), .unset] [(.int (3 : Int32))])) _
      refine XS.iconst X292.here hx rfl (hb hby at_108) ?_
      show Steps p.tables e below (T292.setTop (mkF m 109 #[.val (.int p0), .val (.int p1), .val (.int p2), .val (.int p3), .val (.int p4), .val (.int (3 : Int32)), .val (.ref b226), .val (.ref b245), .val (.int p2), .val (.int v22), .unset] [(.int (2 : Int32)), (.int (3 : Int32))])) _
      refine XS.icmpYes X292.here hx rfl (pc0 := 109) (pc' := 119) rfl (hb hby at_109) rfl (feq (by decide : ¬ ((3 : Int32) = (2 : Int32)))).2 (by decide) (by decide) ?_
      show Steps p.tables e below (T292.setTop (mkF m 119 #[.val (.int p0), .val (.int p1), .val (.int p2), .val (.int p3), .val (.int p4), .val (.int (3 : Int32)), .val (.ref b226), .val (.ref b245), .val (.int p2), .val (.int v22), .unset] [])) _
      refine XS.iloadN X292.here hx rfl (hb hby at_119) rfl ?_
      show Steps p.tables e below (T292.setTop (mkF m 120 #[.val (.int p0), .val (.int p1), .val (.int p2), .val (.int p3), .val (.int p4), .val (.int (3 : Int32)), .val (.ref b226), .val (.ref b245), .val (.int p2), .val (.int v22), .unset] [(.int p3)])) _
      refine XS.istore X292.here hx rfl (hb hby at_120) rfl (l' := #[.val (.int p0), .val (.int p1), .val (.int p2), .val (.int p3), .val (.int p4), .val (.int (3 : Int32)), .val (.ref b226), .val (.ref b245), .val (.int p2), .val (.int v22), .val (.int p3)]) rfl ?_
      show Steps p.tables e below (T292.setTop (mkF m 122 #[.val (.int p0), .val (.int p1), .val (.int p2), .val (.int p3), .val (.int p4), .val (.int (3 : Int32)), .val (.ref b226), .val (.ref b245), .val (.int p2), .val (.int v22), .val (.int p3)] [])) _
      refine XS.iload X292.here hx rfl (hb hby at_122) rfl ?_
      show Steps p.tables e below (T292.setTop (mkF m 124 #[.val (.int p0), .val (.int p1), .val (.int p2), .val (.int p3), .val (.int p4), .val (.int (3 : Int32)), .val (.ref b226), .val (.ref b245), .val (.int p2), .val (.int v22), .val (.int p3)] [(.int v22)])) _
      refine st299 _ ?_
      show Steps p.tables e below (T299.setTop (mkF m 143 #[.val (.int p0), .val (.int p1), .val (.int p2), .val (.int p3), .val (.int p4), .val (.int (3 : Int32)), .val (.ref b226), .val (.ref b245), .val (.int p2), .val (.int v22), .val (.int p3)] [(.int v26)])) _
      refine XS.istore X299.here hx rfl (hb hby at_143) rfl (l' := #[.val (.int p0), .val (.int p1), .val (.int p2), .val (.int p3), .val (.int p4), .val (.int (3 : Int32)), .val (.ref b226), .val (.ref b245), .val (.int p2), .val (.int v26), .val (.int p3)]) rfl ?_
      show Steps p.tables e below (T299.setTop (mkF m 145 #[.val (.int p0), .val (.int p1), .val (.int p2), .val (.int p3), .val (.int p4), .val (.int (3 : Int32)), .val (.ref b226), .val (.ref b245), .val (.int p2), .val (.int v26), .val (.int p3)] [])) _
      refine XS.iload X299.here hx rfl (hb hby at_145) rfl ?_
      show Steps p.tables e below (T299.setTop (mkF m 147 #[.val (.int p0), .val (.int p1), .val (.int p2), .val (.int p3), .val (.int p4), .val (.int (3 : Int32)), .val (.ref b226), .val (.ref b245), .val (.int p2), .val (.int v26), .val (.int p3)] [(.int (3 : Int32))])) _
      refine XS.iconst X299.here hx rfl (hb hby at_147) ?_
      show Steps p.tables e below (T299.setTop (mkF m 148 #[.val (.int p0), .val (.int p1), .val (.int p2), .val (.int p3), .val (.int p4), .val (.int (3 : Int32)), .val (.ref b226), .val (.ref b245), .val (.int p2), .val (.int v26), .val (.int p3)] [(.int (3 : Int32)), (.int (3 : Int32))])) _
      refine XS.icmpNo X299.here hx rfl (hb hby at_148) rfl (teq (by decide : (3 : Int32) = (3 : Int32))).2 ?_
      show Steps p.tables e below (T299.setTop (mkF m 151 #[.val (.int p0), .val (.int p1), .val (.int p2), .val (.int p3), .val (.int p4), .val (.int (3 : Int32)), .val (.ref b226), .val (.ref b245), .val (.int p2), .val (.int v26), .val (.int p3)] [])) _
      refine XS.iload X299.here hx rfl (hb hby at_151) rfl ?_
      show Steps p.tables e below (T299.setTop (mkF m 153 #[.val (.int p0), .val (.int p1), .val (.int p2), .val (.int p3), .val (.int p4), .val (.int (3 : Int32)), .val (.ref b226), .val (.ref b245), .val (.int p2), .val (.int v26), .val (.int p3)] [(.int v26)])) _
      refine st303 _ ?_
      show Steps p.tables e below (T303.setTop (mkF m 172 #[.val (.int p0), .val (.int p1), .val (.int p2), .val (.int p3), .val (.int p4), .val (.int (3 : Int32)), .val (.ref b226), .val (.ref b245), .val (.int p2), .val (.int v26), .val (.int p3)] [(.int v28)])) _
      refine XS.istore X303.here hx rfl (hb hby at_172) rfl (l' := #[.val (.int p0), .val (.int p1), .val (.int p2), .val (.int p3), .val (.int p4), .val (.int (3 : Int32)), .val (.ref b226), .val (.ref b245), .val (.int p2), .val (.int v28), .val (.int p3)]) rfl ?_
      show Steps p.tables e below (T303.setTop (mkF m 174 #[.val (.int p0), .val (.int p1), .val (.int p2), .val (.int p3), .val (.int p4), .val (.int (3 : Int32)), .val (.ref b226), .val (.ref b245), .val (.int p2), .val (.int v28), .val (.int p3)] [])) _
      refine XS.iload X303.here hx rfl (hb hby at_174) rfl ?_
      exact kt
    refine own_goW hgo304 ?_
    have hz305 : v28 = 1 := own_leaf2 (p0 := p0) (p1 := p1) (p2 := p2) (p3 := p3) (p4 := p4) hv1 hv16 hv17 hv18 hv19 hv20 hv22 hv25 hv26 hv28 hs10_2 hs10_6 hs10_15
    exact own_retZW X303 hx Bd.returns Bd.notSynchronized (hb hby at_176) hS256 (by rw [e303]; exact Ks286) (by decide) (by decide) (Or.inr hz305) ⟨by rw [hz305], N303⟩
set_option maxRecDepth 65536 in
set_option maxHeartbeats 40000000 in
theorem comes_1 {Post : Tables → Env → Array Value → State → Outcome → State → Prop} (hpost : ∀ tb e args s v u, (limb_1_1.after args s (.returned v) u = true ∧ limb_1_2.after args s (.returned v) u = true ∧ True) → ReturnedEndW s (.returned v) u (Jvm.fieldLocs frame_1_writes args s ++ Jvm.arrayLocs frame_1_arrays args s ++ Jvm.staticLocs frame_1_statics s) 16 1152 → Post tb e args s (.returned v) u) :
    ArmFor flags0 classFile x code maxLocals ret World_1 tables_1 room_1 Calls_1 rest_1 Pre_1 Post := by
  intro l hfl _ _ p e ha hc hk s m args below hf hA hF happ hP
  obtain ⟨hcalls, hrest, hpre⟩ := hP
  obtain ⟨-, -, -, hnamed, -, -, -, hat⟩ := (Spec.applies_iff hf).mp happ
  obtain ⟨hg, hn⟩ := and_e (Cond.before_iff.mp (show (Jvm.Cond.and given_1 narrow_1).before args s = true from hpre))
  obtain ⟨gg1, gg2⟩ := and_e hg
  obtain ⟨gg3, gg4⟩ := and_e gg2
  obtain ⟨gg5, gg6⟩ := and_e gg4
  obtain ⟨gg7, gg8⟩ := and_e gg6
  obtain ⟨gg9, gg10⟩ := and_e gg8
  obtain ⟨w0, w1, w2, w3, w4, rfl⟩ : ∃ w0 w1 w2 w3 w4 : Value, args = #[w0, w1, w2, w3, w4] := by
    have hs : args.size = 5 := by simpa [Cond.value, given_1] using gg1
    obtain ⟨L⟩ := args
    match L, hs with
    | [w0, w1, w2, w3, w4], _ => exact ⟨w0, w1, w2, w3, w4, rfl⟩
  have hw := fun d (hd : d ∈ tables_1) => atoms_spec (ws := Jvm.Cond.code x code maxLocals ret :: tables_1) hat d (List.mem_cons_of_mem _ hd)
  have hfit : Fit s := fun {y c} hc i hi => by
    obtain ⟨ha, rfl⟩ := Array.getElem?_eq_some_iff.mp hc
    have q := List.all_eq_true.mp ((Array.all_eq_true_iff_forall_mem.mp hF) _ (Array.getElem_mem ha)) i (List.mem_range.mpr hi)
    simpa [Array.getElem?_eq_getElem hi] using q
  obtain ⟨i0, ei0⟩ := is_v gg3
  obtain rfl : w0 = (.int i0) := Option.some.inj ei0
  obtain ⟨i1, ei1⟩ := is_v gg5
  obtain rfl : w1 = (.int i1) := Option.some.inj ei1
  obtain ⟨i2, ei2⟩ := is_v gg7
  obtain rfl : w2 = (.int i2) := Option.some.inj ei2
  obtain ⟨i3, ei3⟩ := is_v gg9
  obtain rfl : w3 = (.int i3) := Option.some.inj ei3
  obtain ⟨i4, ei4⟩ := is_v gg10
  obtain rfl : w4 = (.int i4) := Option.some.inj ei4
  obtain ⟨n, o, h1, h2, h3, _, L, rfl, ⟨rfl, N⟩, hq⟩ := rm0 l s _ hw tables_1 i0 i1 i2 i3 i4 s.heap s.heap.size (Nat.le_refl _)  p e ha hc hk s m _ below hf ((Spec.applies_iff_loose hf).mp happ).1 ⟨rfl, State.Warmed39.refl s, rfl⟩ trivial
  refine ⟨n, _, h1, h2, h3, hpost _ _ _ _ _ _ ⟨Cond.after_iff.mpr rfl, Cond.after_iff.mpr (eq_i res_at (Term.int_eval (1)) rfl), trivial⟩ ⟨hq.1, hq.2.1, hq.2.2.1, (hq.2.2.2.sift fun y hy => Or.inr (N y hy)).mono (by decide) (by decide)⟩⟩
theorem main_1_1 : Claimed_1_1 := comes_1 fun _ _ _ _ _ _ h hF => ⟨h.1, hF⟩
theorem main_1_2 : Claimed_1_2 := comes_1 fun _ _ _ _ _ _ h hF => ⟨h.2.1, hF⟩
end Jvm.Pilot.@@N@@
namespace Jvm.Pilot.@@N@@
open Jvm Jvm.ClassFile Sem Op Lib Jvm.Free Jvm.Stand Jvm.Pilot.@@N@@.Jvm.D
/-! MADE BY PROGRAM (witnessworld.py) out of the Statement's table words and the real class files: 15 classes; the members and pool entries that the words name. The judged class is class 1, her method 1. -/
namespace start1
open Jvm.ClassFile
def u (s : String) : CpInfo := .utf8 (stringToUtf16 s)
/-- a pool by its gaps: so many unusable entries, then the entry; so many at the end -/
def gap : Nat → List CpInfo → List CpInfo
  | 0, r => r
  | n + 1, r => .unusable :: gap n r
def poolList (es : List (Nat × CpInfo)) (last : Nat) : List CpInfo := es.foldr (fun e r => gap e.1 (e.2 :: r)) (gap last [])
def pool (es : List (Nat × CpInfo)) (last : Nat) : Array CpInfo := ⟨poolList es last⟩
def fileOf (pool : Array CpInfo) (this : Nat) (attrs : Array Attribute := #[]) (ms : Array MethodInfo := #[]) (fl : Nat := 33) (sup : Nat := 0) (ifs : Array Nat := #[]) (fds : Array FieldInfo := #[]) : ClassFile where
  minorVersion := 0
  majorVersion := 65
  constantPool := pool
  accessFlags := fl
  thisClass := this
  superClass := sup
  interfaces := ifs
  fields := fds
  methods := ms
  attributes := attrs
def plain (name : String) (sup : Option ClassId) : Class where
  name := name
  kind := .ordinary
  loader := none
  accessFlags := 33
  super := sup
  interfaces := #[]
  cf := none
  fields := #[]
  methods := #[]
  instanceTypes := #[]
  staticTypes := #[]
  resolved := #[]
  callSites := []
  init := .initialized
  statics := none
  mirror := none

def pool0 : Array CpInfo := pool [(5, u "<init>"), (0, u "()V"), (1, .class_ 10), (1, u "java/lang/Object")] 113

def k0c0 : Code := { maxStack := 0, maxLocals := 1, code := object_method_1_code, exceptionTable := #[], attributes := #[] }
def k0m0 : Method := { name := "<init>", desc := "()V", sig := { parameters := [], returnType := none }, accessFlags := 1, code := some k0c0 }
/-- java/lang/Object -/
def k0 : Class := { plain "java/lang/Object" none with
  accessFlags := 33
  interfaces := #[]
  cf := some (fileOf pool0 8 #[] #[{ accessFlags := 1, nameIndex := 5, descriptorIndex := 6, attributes := #[] }] 33 0 #[] #[])
  fields := #[]
  methods := #[k0m0]
  instanceTypes := #[]
  staticTypes := #[]
  resolved := Array.replicate 124 none
  statics := none }

def pool1 : Array CpInfo := pool [(2, .class_ 4), (1, u "java/lang/Object"), (0, u "<init>"), (0, u "()V"), (0, .integer 2147483647), (0, .class_ 9), (0, u "org/tagwright/core/DataField"), (0, .string 11), (0, u "245"), (0, .methodref 8 13), (0, .nameAndType 5 14), (0, u "(Ljava/lang/String;BB[BII[I)V"), (0, .methodref 8 16), (0, .nameAndType 17 18), (0, u "dataTo"), (0, u "(I)I"), (0, .class_ 20), (0, u "org/tagwright/core/DataFieldDataToPinLaw"), (2, u "law"), (0, u "(IIIII)Z")] 5

def k1m0 : Method := { name := "<init>", desc := "()V", sig := { parameters := [], returnType := none }, accessFlags := 1, code := none }
def k1c1 : Code := { maxStack := 9, maxLocals := 11, code := code, exceptionTable := #[], attributes := #[] }
def k1m1 : Method := { name := "law", desc := "(IIIII)Z", sig := { parameters := [.int, .int, .int, .int, .int], returnType := some .boolean }, accessFlags := 9, code := some k1c1 }
/-- org/tagwright/core/DataFieldDataToPinLaw -/
def k1 : Class := { plain "org/tagwright/core/DataFieldDataToPinLaw" (some 0) with
  accessFlags := 49
  interfaces := #[]
  cf := some (fileOf pool1 19 #[] #[{ accessFlags := 1, nameIndex := 5, descriptorIndex := 6, attributes := #[] }, { accessFlags := 9, nameIndex := 23, descriptorIndex := 24, attributes := #[] }] 49 2 #[] #[])
  fields := #[]
  methods := #[k1m0, k1m1]
  instanceTypes := #[]
  staticTypes := #[]
  resolved := Array.replicate 30 none
  statics := none }

def pool2 : Array CpInfo := pool [(1, .methodref 2 3), (0, .class_ 4), (0, .nameAndType 5 6), (0, u "java/lang/Object"), (0, u "<init>"), (0, u "()V"), (0, .fieldref 8 9), (0, .class_ 10), (0, .nameAndType 11 12), (0, u "org/tagwright/core/Field"), (0, u "tag"), (0, u "Ljava/lang/String;"), (14, u "(Ljava/lang/String;)V"), (28, u "DIGIT_TAG_NAMES"), (0, u "[Ljava/lang/String;"), (25, u "TAG_LENGTH"), (0, u "I"), (2, u "DIGIT_TAGS")] 36

def k2c0 : Code := { maxStack := 2, maxLocals := 2, code := prog_35_method_1_code, exceptionTable := #[], attributes := #[] }
def k2m0 : Method := { name := "<init>", desc := "(Ljava/lang/String;)V", sig := { parameters := [(.object "java/lang/String")], returnType := none }, accessFlags := 0, code := some k2c0 }
/-- org/tagwright/core/Field -/
def k2 : Class := { plain "org/tagwright/core/Field" (some 0) with
  accessFlags := 1057
  interfaces := #[]
  cf := some (fileOf pool2 8 #[] #[{ accessFlags := 0, nameIndex := 5, descriptorIndex := 27, attributes := #[] }] 1057 2 #[] #[{ accessFlags := 25, nameIndex := 83, descriptorIndex := 84, attributes := #[] }, { accessFlags := 24, nameIndex := 87, descriptorIndex := 84, attributes := #[] }, { accessFlags := 26, nameIndex := 56, descriptorIndex := 57, attributes := #[] }, { accessFlags := 18, nameIndex := 11, descriptorIndex := 12, attributes := #[] }])
  fields := #[{ name := "TAG_LENGTH", type := .int, accessFlags := 25, slot := 0, constantValue := 0 }, { name := "DIGIT_TAGS", type := .int, accessFlags := 24, slot := 1, constantValue := 0 }, { name := "DIGIT_TAG_NAMES", type := (.array (.object "java/lang/String")), accessFlags := 26, slot := 2, constantValue := 0 }, { name := "tag", type := (.object "java/lang/String"), accessFlags := 18, slot := 0, constantValue := 0 }]
  methods := #[k2m0]
  instanceTypes := #[(.object "java/lang/String")]
  staticTypes := #[.int, .int, (.array (.object "java/lang/String"))]
  resolved := Array.replicate 124 none
  statics := none }

def pool3 : Array CpInfo := pool [(2, .class_ 4), (1, u "org/tagwright/core/DataField"), (3, .class_ 10), (1, u "org/tagwright/core/DataField$LaidOut"), (4, u "<init>"), (3, u "bytes"), (3, u "delimiters"), (3, u "(Ljava/lang/String;BB[BII[I)V"), (0, .methodref 29 30), (0, .class_ 31), (0, .nameAndType 15 32), (0, u "org/tagwright/core/Field"), (0, u "(Ljava/lang/String;)V"), (0, .fieldref 2 34), (0, .nameAndType 35 36), (0, u "indicator1"), (0, u "B"), (0, .fieldref 2 38), (0, .nameAndType 39 36), (0, u "indicator2"), (0, .fieldref 2 41), (0, .nameAndType 19 42), (0, u "[B"), (0, .fieldref 2 44), (0, .nameAndType 45 46), (0, u "from"), (0, u "I"), (0, .fieldref 2 48), (0, .nameAndType 49 46), (0, u "to"), (0, .fieldref 2 51), (0, .nameAndType 23 52), (0, u "[I"), (12, u "subfields"), (0, u "Ljava/util/List;"), (9, u "(I)I"), (2, u "dataTo")] 33

def k3c0 : Code := { maxStack := 2, maxLocals := 8, code := prog_30_method_3_code, exceptionTable := #[], attributes := #[] }
def k3m0 : Method := { name := "<init>", desc := "(Ljava/lang/String;BB[BII[I)V", sig := { parameters := [(.object "java/lang/String"), .byte, .byte, (.array .byte), .int, .int, (.array .int)], returnType := none }, accessFlags := 0, code := some k3c0 }
def k3c1 : Code := { maxStack := 3, maxLocals := 2, code := prog_30_method_11_code, exceptionTable := #[], attributes := #[] }
def k3m1 : Method := { name := "dataTo", desc := "(I)I", sig := { parameters := [.int], returnType := some .int }, accessFlags := 0, code := some k3c1 }
/-- org/tagwright/core/DataField -/
def k3 : Class := { plain "org/tagwright/core/DataField" (some 2) with
  accessFlags := 49
  interfaces := #[]
  cf := some (fileOf pool3 2 #[.nestMembers #[8]] #[{ accessFlags := 0, nameIndex := 15, descriptorIndex := 27, attributes := #[] }, { accessFlags := 0, nameIndex := 79, descriptorIndex := 76, attributes := #[] }] 49 29 #[] #[{ accessFlags := 16, nameIndex := 35, descriptorIndex := 36, attributes := #[] }, { accessFlags := 16, nameIndex := 39, descriptorIndex := 36, attributes := #[] }, { accessFlags := 16, nameIndex := 19, descriptorIndex := 42, attributes := #[] }, { accessFlags := 16, nameIndex := 45, descriptorIndex := 46, attributes := #[] }, { accessFlags := 16, nameIndex := 49, descriptorIndex := 46, attributes := #[] }, { accessFlags := 16, nameIndex := 23, descriptorIndex := 52, attributes := #[] }, { accessFlags := 2, nameIndex := 65, descriptorIndex := 66, attributes := #[] }])
  fields := #[{ name := "indicator1", type := .byte, accessFlags := 16, slot := 1, constantValue := 0 }, { name := "indicator2", type := .byte, accessFlags := 16, slot := 2, constantValue := 0 }, { name := "bytes", type := (.array .byte), accessFlags := 16, slot := 3, constantValue := 0 }, { name := "from", type := .int, accessFlags := 16, slot := 4, constantValue := 0 }, { name := "to", type := .int, accessFlags := 16, slot := 5, constantValue := 0 }, { name := "delimiters", type := (.array .int), accessFlags := 16, slot := 6, constantValue := 0 }, { name := "subfields", type := (.object "java/util/List"), accessFlags := 2, slot := 7, constantValue := 0 }]
  methods := #[k3m0, k3m1]
  instanceTypes := #[(.object "java/lang/String"), .byte, .byte, (.array .byte), .int, .int, (.array .int), (.object "java/util/List")]
  staticTypes := #[]
  resolved := Array.replicate 113 none
  statics := none }

def pool4 : Array CpInfo := pool [(1, .class_ 2), (0, u "java/io/Serializable"), (0, .class_ 4), (0, u "java/lang/Object")] 2

/-- java/io/Serializable -/
def k4 : Class := { plain "java/io/Serializable" (some 0) with
  accessFlags := 1537
  interfaces := #[]
  cf := some (fileOf pool4 1 #[] #[] 1537 3 #[] #[])
  fields := #[]
  methods := #[]
  instanceTypes := #[]
  staticTypes := #[]
  resolved := Array.replicate 7 none
  statics := none }

def pool5 : Array CpInfo := pool [(1, .class_ 2), (0, u "java/lang/Comparable"), (0, .class_ 4), (0, u "java/lang/Object")] 7

/-- java/lang/Comparable -/
def k5 : Class := { plain "java/lang/Comparable" (some 0) with
  accessFlags := 1537
  interfaces := #[]
  cf := some (fileOf pool5 1 #[] #[] 1537 3 #[] #[])
  fields := #[]
  methods := #[]
  instanceTypes := #[]
  staticTypes := #[]
  resolved := Array.replicate 12 none
  statics := none }

def pool6 : Array CpInfo := pool [(2, .class_ 4), (1, u "java/lang/CharSequence"), (42, .class_ 48), (0, u "java/lang/CharSequence$1CodePointIterator"), (10, .class_ 60), (0, u "java/lang/CharSequence$1CharIterator"), (5, .class_ 67), (0, u "java/lang/Object")] 63

/-- java/lang/CharSequence -/
def k6 : Class := { plain "java/lang/CharSequence" (some 0) with
  accessFlags := 1537
  interfaces := #[]
  cf := some (fileOf pool6 2 #[.nestMembers #[47, 59]] #[] 1537 66 #[] #[])
  fields := #[]
  methods := #[]
  instanceTypes := #[]
  staticTypes := #[]
  resolved := Array.replicate 131 none
  statics := none }

def pool7 : Array CpInfo := pool [(1, .class_ 2), (0, u "java/lang/constant/Constable"), (0, .class_ 4), (0, u "java/lang/Object")] 6

/-- java/lang/constant/Constable -/
def k7 : Class := { plain "java/lang/constant/Constable" (some 0) with
  accessFlags := 1537
  interfaces := #[]
  cf := some (fileOf pool7 1 #[] #[] 1537 3 #[] #[])
  fields := #[]
  methods := #[]
  instanceTypes := #[]
  staticTypes := #[]
  resolved := Array.replicate 11 none
  statics := none }

def pool8 : Array CpInfo := pool [(1, .class_ 2), (0, u "java/lang/constant/ConstantDesc"), (0, .class_ 4), (0, u "java/lang/Object")] 32

/-- java/lang/constant/ConstantDesc -/
def k8 : Class := { plain "java/lang/constant/ConstantDesc" (some 0) with
  accessFlags := 1537
  interfaces := #[]
  cf := some (fileOf pool8 1 #[] #[] 1537 3 #[] #[])
  fields := #[]
  methods := #[]
  instanceTypes := #[]
  staticTypes := #[]
  resolved := Array.replicate 37 none
  statics := none }

def pool9 : Array CpInfo := pool [(2, .class_ 4), (1, u "java/lang/Object"), (0, u "<init>"), (0, u "()V"), (3, .class_ 12), (1, u "java/lang/String"), (0, u "value"), (0, u "[B"), (2, u "coder"), (0, u "B"), (2, u "hash"), (0, u "I"), (2, u "hashIsZero"), (0, u "Z"), (13, u "COMPACT_STRINGS"), (534, .class_ 576), (0, u "java/lang/CharSequence"), (22, u "CASE_INSENSITIVE_ORDER"), (0, u "Ljava/util/Comparator;"), (500, u "serialPersistentFields"), (0, u "[Ljava/io/ObjectStreamField;"), (0, .class_ 1104), (0, u "java/lang/String$CaseInsensitiveComparator"), (1, .class_ 1107), (0, u "java/io/Serializable"), (0, .class_ 1109), (0, u "java/lang/Comparable"), (0, .class_ 1111), (0, u "java/lang/constant/Constable"), (0, .class_ 1113), (0, u "java/lang/constant/ConstantDesc"), (2, u "serialVersionUID"), (0, u "J"), (3, u "REPL"), (0, u "C"), (2, u "LATIN1"), (1, u "UTF16")] 323

def k9m0 : Method := { name := "<init>", desc := "()V", sig := { parameters := [], returnType := none }, accessFlags := 1, code := none }
/-- java/lang/String -/
def k9 : Class := { plain "java/lang/String" (some 0) with
  accessFlags := 49
  interfaces := #[4, 5, 6, 7, 8]
  cf := some (fileOf pool9 10 #[.nestMembers #[1103]] #[{ accessFlags := 1, nameIndex := 5, descriptorIndex := 6, attributes := #[] }] 49 2 #[1106, 1108, 575, 1110, 1112] #[{ accessFlags := 18, nameIndex := 13, descriptorIndex := 14, attributes := #[] }, { accessFlags := 18, nameIndex := 17, descriptorIndex := 18, attributes := #[] }, { accessFlags := 2, nameIndex := 21, descriptorIndex := 22, attributes := #[] }, { accessFlags := 2, nameIndex := 25, descriptorIndex := 26, attributes := #[] }, { accessFlags := 26, nameIndex := 1116, descriptorIndex := 1117, attributes := #[] }, { accessFlags := 24, nameIndex := 40, descriptorIndex := 26, attributes := #[] }, { accessFlags := 26, nameIndex := 1101, descriptorIndex := 1102, attributes := #[] }, { accessFlags := 26, nameIndex := 1121, descriptorIndex := 1122, attributes := #[] }, { accessFlags := 25, nameIndex := 599, descriptorIndex := 600, attributes := #[] }, { accessFlags := 24, nameIndex := 1125, descriptorIndex := 18, attributes := #[] }, { accessFlags := 24, nameIndex := 1127, descriptorIndex := 18, attributes := #[] }])
  fields := #[{ name := "value", type := (.array .byte), accessFlags := 18, slot := 0, constantValue := 0 }, { name := "coder", type := .byte, accessFlags := 18, slot := 1, constantValue := 0 }, { name := "hash", type := .int, accessFlags := 2, slot := 2, constantValue := 0 }, { name := "hashIsZero", type := .boolean, accessFlags := 2, slot := 3, constantValue := 0 }, { name := "serialVersionUID", type := .long, accessFlags := 26, slot := 0, constantValue := 0 }, { name := "COMPACT_STRINGS", type := .boolean, accessFlags := 24, slot := 1, constantValue := 0 }, { name := "serialPersistentFields", type := (.array (.object "java/io/ObjectStreamField")), accessFlags := 26, slot := 2, constantValue := 0 }, { name := "REPL", type := .char, accessFlags := 26, slot := 3, constantValue := 0 }, { name := "CASE_INSENSITIVE_ORDER", type := (.object "java/util/Comparator"), accessFlags := 25, slot := 4, constantValue := 0 }, { name := "LATIN1", type := .byte, accessFlags := 24, slot := 5, constantValue := 0 }, { name := "UTF16", type := .byte, accessFlags := 24, slot := 6, constantValue := 0 }]
  methods := #[k9m0]
  instanceTypes := #[(.array .byte), .byte, .int, .boolean]
  staticTypes := #[.long, .boolean, (.array (.object "java/io/ObjectStreamField")), .char, (.object "java/util/Comparator"), .byte, .byte]
  resolved := Array.replicate 1451 none
  statics := none }

def pool10 : Array CpInfo := pool [(1, u "java/lang/Cloneable"), (0, .class_ 1), (0, u "java/lang/Object"), (0, .class_ 3)] 3

/-- java/lang/Cloneable -/
def k10 : Class := { plain "java/lang/Cloneable" (some 0) with
  accessFlags := 1537
  interfaces := #[]
  cf := some (fileOf pool10 2 #[] #[] 1537 4 #[] #[])
  fields := #[]
  methods := #[]
  instanceTypes := #[]
  staticTypes := #[]
  resolved := Array.replicate 8 none
  statics := none }

/-- the primitive byte -/
def k11 : Class := { plain "byte" none with kind := .primitive 'B', accessFlags := 0x411 }
/-- [B -/
def k12 : Class := { plain "[B" (some 0) with kind := .array 11 .byte, interfaces := #[10, 4], accessFlags := 1041 }

/-- the primitive int -/
def k13 : Class := { plain "int" none with kind := .primitive 'I', accessFlags := 0x411 }
/-- [I -/
def k14 : Class := { plain "[I" (some 0) with kind := .array 13 .int, interfaces := #[10, 4], accessFlags := 1041 }

def heap : Heap := #[]
def classes : Array Class := #[k0, k1, k2, k3, k4, k5, k6, k7, k8, k9, k10, k11, k12, k13, k14]
def interned : List (Array UInt16 × Addr) := []
def slotsUsed : Nat := 0
def theMethod : MethodId := ⟨1, 1⟩
def args0 : Array Value := #[.int 5, .int 5, .int 5, .int 5, .int 5]
def aboutOver (below : List Frame) : State where
  vm := { classes := classes, interned := interned.toArray }
  heap := heap
  slotsUsed := slotsUsed
  threads := #[{ frames := .invoking theMethod args0 :: below }]
def below0 : List Frame := [.native { method := ⟨0, 0⟩, args := #[] }]
def about1 : State := aboutOver below0
def p0 : Program := .bare "" "" ""
def e0 : Env := launch0.env 0 0 0
theorem w_frames : about1.frames = Frame.invoking theMethod args0 :: below0 := rfl
set_option maxRecDepth 65536 in
theorem w_args : argsFit about1.vm theMethod args0 = true := by decide +kernel
set_option maxRecDepth 65536 in
theorem w_heap : heapFits about1 = true := by decide +kernel
set_option maxRecDepth 65536 in
theorem w_runnable : about1.curStatus? = some .runnable := by decide +kernel
set_option maxRecDepth 65536 in
theorem w_alone : about1.alone = true := by decide +kernel
set_option maxRecDepth 65536 in
theorem w_named : about1.methodNamed? x = some theMethod := by decide +kernel
set_option maxRecDepth 65536 in
theorem w_hears : about1.hears theMethod below0 = true := by decide +kernel
set_option maxRecDepth 65536 in
theorem w_ripe : about1.ripe theMethod args0 below0 = true := by decide +kernel
theorem w_running : about1.status = .running := rfl
set_option maxRecDepth 65536 in
theorem w_room : about1.hasRoom e0.platform room_1 = true :=
  launch0.hasRoom_least _ room_1 (by decide +kernel) (by decide +kernel) (by decide +kernel) (by decide +kernel) (by decide +kernel) (by decide +kernel)
theorem allAtoms_all (ts : List Jvm.Cond) (a : Array Jvm.Value) (st : Jvm.State) : (allAtoms ts).before a st = ts.all (fun c => c.before a st) := by
  induction ts with
  | nil => rfl
  | cons c t ih =>
    show (Jvm.Cond.and c (allAtoms t)).before a st = _
    rw [Jvm.Cond.before_and, ih, List.all_cons]
def words1 : List Jvm.Cond := Jvm.Cond.code x code maxLocals ret :: tables_1
/-- a 'code' word, met by the world's own term for the bytes: nothing is compared byte by byte -/
theorem code_word {y : MethodName} {bytes : ByteArray} {mx : Nat} {rt : Option FieldType} {a : Array Value} {s : State} {m : MethodId} {meth : Method} {c : Code} (h1 : s.methodNamed? y = some m) (h2 : s.vm.method? m = some meth) (h3 : meth.code = some c) (h4 : c.code = bytes)
    (h5 : (c.maxLocals == mx && c.exceptionTable.isEmpty && decide (c.maxStack ≤ mostOperands) && decide (meth.sig.returnType = rt) && !meth.locks && decide (parseMethodDescriptor y.desc = some meth.sig)) = true) : (Jvm.Cond.code y bytes mx rt).before a s = true := by
  simp only [Bool.and_eq_true, beq_iff_eq, Bool.not_eq_true', decide_eq_true_eq] at h5
  obtain ⟨⟨⟨⟨⟨g1, g2⟩, g3⟩, g4⟩, g5⟩, g6⟩ := h5
  simp [Cond.before, Cond.holds, Cond.value, h1, h2, h3, h4, g1, g2, g3, g4, g5, g6]
def isCode : Jvm.Cond → Bool
  | .code _ _ _ _ => true
  | _ => false
theorem all_split {L : List Jvm.Cond} {P : Jvm.Cond → Bool} (h1 : L.all (fun c => isCode c || P c) = true) (h2 : ∀ c ∈ L.filter isCode, P c = true) : L.all P = true := by
  refine List.all_eq_true.mpr fun c hc => ?_
  have h := List.all_eq_true.mp h1 c hc
  rcases Bool.eq_false_or_eq_true (isCode c) with hi | hi
  · exact h2 c (List.mem_filter.mpr ⟨hc, hi⟩)
  · simpa [hi] using h
set_option maxRecDepth 65536 in
theorem w_c0 : (Jvm.Cond.code x code maxLocals ret).before args0 about1 = true := code_word (m := ⟨1, 1⟩) (meth := k1m1) (c := k1c1) (by decide +kernel) rfl rfl rfl (by decide +kernel)
set_option maxRecDepth 65536 in
theorem w_c1 : (Jvm.Cond.code ({ cls := "org/tagwright/core/DataField", name := "<init>", desc := "(Ljava/lang/String;BB[BII[I)V" } : Jvm.MethodName) prog_30_method_3_code (8 : Nat) (Option.none : Option Jvm.ClassFile.FieldType)).before args0 about1 = true := code_word (m := ⟨3, 0⟩) (meth := k3m0) (c := k3c0) (by decide +kernel) rfl rfl rfl (by decide +kernel)
set_option maxRecDepth 65536 in
theorem w_c2 : (Jvm.Cond.code ({ cls := "org/tagwright/core/Field", name := "<init>", desc := "(Ljava/lang/String;)V" } : Jvm.MethodName) prog_35_method_1_code (2 : Nat) (Option.none : Option Jvm.ClassFile.FieldType)).before args0 about1 = true := code_word (m := ⟨2, 0⟩) (meth := k2m0) (c := k2c0) (by decide +kernel) rfl rfl rfl (by decide +kernel)
set_option maxRecDepth 65536 in
theorem w_c3 : (Jvm.Cond.code ({ cls := "java/lang/Object", name := "<init>", desc := "()V" } : Jvm.MethodName) object_method_1_code (1 : Nat) (Option.none : Option Jvm.ClassFile.FieldType)).before args0 about1 = true := code_word (m := ⟨0, 0⟩) (meth := k0m0) (c := k0c0) (by decide +kernel) rfl rfl rfl (by decide +kernel)
set_option maxRecDepth 65536 in
theorem w_c4 : (Jvm.Cond.code ({ cls := "org/tagwright/core/DataField", name := "dataTo", desc := "(I)I" } : Jvm.MethodName) prog_30_method_11_code (2 : Nat) (Option.some Jvm.ClassFile.FieldType.int)).before args0 about1 = true := code_word (m := ⟨3, 1⟩) (meth := k3m1) (c := k3c1) (by decide +kernel) rfl rfl rfl (by decide +kernel)
def codes1 : List Jvm.Cond := [Jvm.Cond.code x code maxLocals ret, Jvm.Cond.code ({ cls := "org/tagwright/core/DataField", name := "<init>", desc := "(Ljava/lang/String;BB[BII[I)V" } : Jvm.MethodName) prog_30_method_3_code (8 : Nat) (Option.none : Option Jvm.ClassFile.FieldType), Jvm.Cond.code ({ cls := "org/tagwright/core/Field", name := "<init>", desc := "(Ljava/lang/String;)V" } : Jvm.MethodName) prog_35_method_1_code (2 : Nat) (Option.none : Option Jvm.ClassFile.FieldType), Jvm.Cond.code ({ cls := "java/lang/Object", name := "<init>", desc := "()V" } : Jvm.MethodName) object_method_1_code (1 : Nat) (Option.none : Option Jvm.ClassFile.FieldType), Jvm.Cond.code ({ cls := "org/tagwright/core/DataField", name := "dataTo", desc := "(I)I" } : Jvm.MethodName) prog_30_method_11_code (2 : Nat) (Option.some Jvm.ClassFile.FieldType.int)]
set_option maxRecDepth 65536 in
theorem codes_eq : words1.filter isCode = codes1 := rfl
theorem w_codes : ∀ c ∈ words1.filter isCode, c.before args0 about1 = true := by
  rw [codes_eq]
  intro c hc
  simp only [codes1, List.mem_cons, List.not_mem_nil, or_false] at hc
  rcases hc with rfl | rfl | rfl | rfl | rfl
  · exact w_c0
  · exact w_c1
  · exact w_c2
  · exact w_c3
  · exact w_c4
set_option maxRecDepth 65536 in
theorem w_t1 : (words1.take 24).all (fun c => isCode c || c.before args0 about1) = true := by decide +kernel
set_option maxRecDepth 65536 in
theorem w_t2 : (words1.drop 24).all (fun c => isCode c || c.before args0 about1) = true := by decide +kernel
theorem w_tables : (allAtoms (Jvm.Cond.code x code maxLocals ret :: tables_1)).before args0 about1 = true := by
  rw [allAtoms_all]
  show words1.all (fun c => c.before args0 about1) = true
  refine all_split ?_ w_codes
  rw [← List.take_append_drop 24 words1, List.all_append, w_t1, w_t2]
  rfl
set_option maxRecDepth 65536 in
theorem w_case : (Jvm.Cond.and given_1 narrow_1).before args0 about1 = true := by decide +kernel
theorem w_applies : (headSpec (Jvm.Cond.code x code maxLocals ret :: tables_1) room_1).applies x e0.platform about1 = true :=
  (Spec.applies_iff w_frames).mpr ⟨w_running, w_runnable, w_alone, w_named, w_hears, w_ripe, w_room, w_tables⟩
theorem atStart : AtStart classFile x code maxLocals ret World_1 tables_1 room_1 Calls_1 rest_1 Pre_1 launch0 p0 e0 about1 theMethod args0 below0 :=
  ⟨lists_1, trivial, launch0.admits_env _ _ _, launch0.least_env, fairChoices_fair.cas, fairChoices_fair.clock, w_frames, w_args, w_heap, w_applies, trivial, trivial, w_case⟩
end start1
theorem witness_1 : WitnessClaimed_1 := ⟨start1.p0, start1.e0, start1.about1, start1.theMethod, start1.args0, start1.below0, start1.atStart⟩
end Jvm.Pilot.@@N@@
