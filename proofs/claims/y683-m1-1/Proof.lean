import JvmDerived
import JvmDerived.Pilot.@@N@@Statement
import JvmDerived.Pilot.@@N@@Code
set_option linter.unusedVariables false
set_option linter.unusedSimpArgs false
namespace Jvm.Pilot.@@N@@
open Jvm Jvm.ClassFile Sem Op Lib Jvm.Free Jvm.Stand Jvm.LawKit Jvm.RoadKit Bundle Jvm.Pilot.@@N@@.Jvm.D
section OwnKit
variable {p : Program} {l : Launch} {e : Env} {R : Room} {s : State} {m : MethodId} {args : Array Value} {below : List Frame} {meth : Method} {c : Code} {T : State} {locs : List Loc} {cells slots : Nat}
/-- from the state A the body runs to its end and leaves what Q says -/
def own_Go (p : Program) (e : Env) (below : List Frame) (s : State) (Q : Option Value → Heap → List Loc → Prop) (kc ks : Nat) (A : State) : Prop :=
  ∃ s₂ o, Steps p.tables e below A s₂ ∧ s₂.status = .running ∧ Ended s₂ below o ∧ ∃ v L, o = .returned v ∧ Q v s₂.heap L ∧ FrameEnd s o s₂ L kc ks
theorem own_go {Q : Option Value → Heap → List Loc → Prop} {kc ks : Nat} {A B : State} (h : ∀ t, Steps p.tables e below B t → Steps p.tables e below A t) (k : own_Go p e below s Q kc ks B) : own_Go p e below s Q kc ks A := by
  obtain ⟨s₂, o, h1, h2⟩ := k
  exact ⟨s₂, o, h _ h1, h2⟩
/-- from the state A the body runs to the frame g', the heap as it was -/
def own_Arm (p : Program) (l : Launch) (e : Env) (R : Room) (s : State) (m : MethodId) (args : Array Value) (below : List Frame) (meth : Method) (c : Code) (cells slots n0 : Nat) (h : Heap) (g' : JFrame) (A : State) : Prop :=
  ∃ (T' : State) (locs' : List Loc), Stand p l e R s m args below meth c T' locs' cells slots ∧ Fr n0 locs' ∧ T'.heap = h ∧ ∀ t, Steps p.tables e below (T'.setTop g') t → Steps p.tables e below A t
theorem own_arm {n0 : Nat} {h : Heap} {g' : JFrame} {A B : State} (k1 : ∀ t, Steps p.tables e below B t → Steps p.tables e below A t) (k : own_Arm p l e R s m args below meth c cells slots n0 h g' B) : own_Arm p l e R s m args below meth c cells slots n0 h g' A := by
  obtain ⟨T', locs', h1, h2, h3, h4⟩ := k
  exact ⟨T', locs', h1, h2, h3, fun t kt => k1 t (h4 t kt)⟩
theorem own_armEnd {n0 : Nat} {h : Heap} {g g' : JFrame} (X : Stand p l e R s m args below meth c T locs cells slots) (N : Fr n0 locs) (eT : T.heap = h) (q : g' = g) : own_Arm p l e R s m args below meth c cells slots n0 h g' (T.setTop g) :=
  ⟨T, locs, X, N, eT, fun t kt => q ▸ kt⟩
theorem own_mrg {n0 : Nat} {h : Heap} {g g' : JFrame} (X : Stand p l e R s m args below meth c T locs cells slots) (k : own_Arm p l e R s m args below meth c cells slots n0 h g' (T.setTop g)) :
    ∃ (T' : State) (locs' : List Loc), Stand p l e R s m args below meth c T' locs' cells slots ∧ Fr n0 locs' ∧ T'.heap = h ∧ ∀ t, Steps p.tables e below (T'.setTop g') t → Steps p.tables e below (T.setTop g) t := k
theorem own_leave {Q : Option Value → Heap → List Loc → Prop} {kc ks : Nat} {A : State} {v : Option Value} (X : Stand p l e R s m args below meth c T locs cells slots) (hv : meth.sig.returnType = none → v = none) (hlk : meth.locks = false)
    (hc : cells ≤ kc) (hs : slots ≤ ks) (hQ : Q v T.heap locs) (k : ∀ fs, (∀ (f : JFrame) (acts : List Action), f.method = m → f.locked = none → f.entered = [] → (doReturn e (T.setTop f) acts v).1 = T.setFrames fs) → Steps p.tables e below A (T.setFrames fs)) : own_Go p e below s Q kc ks A := by
  obtain ⟨fs, hr, hrun, hended, hW, hsame⟩ := X.leave (v := v) hv hlk
  exact ⟨_, _, k fs hr, hrun, hended, _, _, rfl, hQ, ⟨_, rfl⟩, hW, hsame.mono hc hs⟩
theorem own_retI {Q : Option Value → Heap → List Loc → Prop} {kc ks pc : Nat} {Ls : Array Slot} {z : Int32} {rest : List Value} (X : Stand p l e R s m args below meth c T locs cells slots) (hx : p.tables.exec = Jvm.exec) (hret : meth.sig.returnType = some .int) (hlk : meth.locks = false)
    (hd : decode c.code pc = .ok (.ireturn, 1)) (hc : cells ≤ kc) (hs : slots ≤ ks) (hQ : Q (some (.int z)) T.heap locs) : own_Go p e below s Q kc ks (T.setTop (mkF m pc Ls (.int z :: rest))) := by
  refine own_leave X (fun h => by rw [hret] at h; cases h) hlk hc hs hQ fun fs hl => ?_
  have hm' : T.vm.method? m = some meth := X.method'
  have hn : narrow .int (.int z) = .int z := rfl
  show Steps p.tables e below (T.setTop { method := m, pc := pc, locals := Ls, stack := _ :: rest, locked := none }) _
  jvm_step X.here [X.here.top, hx, hd, hm', hret, hn]
  first | (intro acts; rw [hl _ acts rfl rfl rfl]) | rw [hl _ _ rfl rfl rfl]
  exact Steps.refl _
theorem own_retN {Q : Option Value → Heap → List Loc → Prop} {kc ks pc : Nat} {Ls : Array Slot} {z : Int32} {rest : List Value} {t : FieldType} (X : Stand p l e R s m args below meth c T locs cells slots) (hx : p.tables.exec = Jvm.exec) (hret : meth.sig.returnType = some t) (ht : t = .boolean ∨ t = .byte ∨ t = .char ∨ t = .short) (hlk : meth.locks = false)
    (hd : decode c.code pc = .ok (.ireturn, 1)) (hc : cells ≤ kc) (hs : slots ≤ ks) (hQ : Q (some (.int (nar t z))) T.heap locs) : own_Go p e below s Q kc ks (T.setTop (mkF m pc Ls (.int z :: rest))) :=
  own_leave X (fun h => by rw [hret] at h; cases h) hlk hc hs hQ fun fs hl => retN X hx (t := t) hret ht hd hl
theorem own_nar01 {z : Int32} (h : z = 0 ∨ z = 1) : nar .boolean z = z := by rcases h with rfl | rfl <;> rfl
theorem own_retZ {Q : Option Value → Heap → List Loc → Prop} {kc ks pc : Nat} {Ls : Array Slot} {z : Int32} {rest : List Value} (X : Stand p l e R s m args below meth c T locs cells slots) (hx : p.tables.exec = Jvm.exec) (hret : meth.sig.returnType = some .boolean) (hlk : meth.locks = false)
    (hd : decode c.code pc = .ok (.ireturn, 1)) (hc : cells ≤ kc) (hs : slots ≤ ks) (hz : z = 0 ∨ z = 1) (hQ : Q (some (.int z)) T.heap locs) : own_Go p e below s Q kc ks (T.setTop (mkF m pc Ls (.int z :: rest))) :=
  own_retN X hx hret (Or.inl rfl) hlk hd hc hs (by rw [own_nar01 hz]; exact hQ)
theorem own_retJ {Q : Option Value → Heap → List Loc → Prop} {kc ks pc : Nat} {Ls : Array Slot} {z : Int64} (X : Stand p l e R s m args below meth c T locs cells slots) (hx : p.tables.exec = Jvm.exec) (hret : meth.sig.returnType = some .long) (hlk : meth.locks = false)
    (hd : decode c.code pc = .ok (.lreturn, 1)) (hc : cells ≤ kc) (hs : slots ≤ ks) (hQ : Q (some (.long z)) T.heap locs) : own_Go p e below s Q kc ks (T.setTop (mkF m pc Ls [.long z])) :=
  own_leave X (fun h => by rw [hret] at h; cases h) hlk hc hs hQ fun fs hl => X.lreturnOut hx hret hd hl
theorem own_retA {Q : Option Value → Heap → List Loc → Prop} {kc ks pc : Nat} {Ls : Array Slot} {w : Value} {t : FieldType} {rest : List Value} (X : Stand p l e R s m args below meth c T locs cells slots) (hx : p.tables.exec = Jvm.exec) (hret : meth.sig.returnType = some t) (ht : t.isReference = true) (hw : w.isRef = true) (hlk : meth.locks = false)
    (hd : decode c.code pc = .ok (.areturn, 1)) (hc : cells ≤ kc) (hs : slots ≤ ks) (hQ : Q (some w) T.heap locs) : own_Go p e below s Q kc ks (T.setTop (mkF m pc Ls (w :: rest))) := by
  refine own_leave X (fun h => by rw [hret] at h; cases h) hlk hc hs hQ fun fs hl => ?_
  have hm' : T.vm.method? m = some meth := X.method'
  show Steps p.tables e below (T.setTop { method := m, pc := pc, locals := Ls, stack := _ :: rest, locked := none }) _
  rcases ref_cases hw with rfl | ⟨a, rfl⟩
  all_goals
    jvm_step X.here [X.here.top, hx, hd, hm', hret, Value.isRef, ht]
    first | (intro acts; rw [hl _ acts rfl rfl rfl]) | rw [hl _ _ rfl rfl rfl]
    exact Steps.refl _
theorem own_retV {Q : Option Value → Heap → List Loc → Prop} {kc ks pc : Nat} {Ls : Array Slot} (X : Stand p l e R s m args below meth c T locs cells slots) (hx : p.tables.exec = Jvm.exec) (hret : meth.sig.returnType = none) (hlk : meth.locks = false)
    (hd : decode c.code pc = .ok (.return_, 1)) (hc : cells ≤ kc) (hs : slots ≤ ks) (hQ : Q none T.heap locs) : own_Go p e below s Q kc ks (T.setTop (mkF m pc Ls [])) :=
  own_leave X (fun _ => rfl) hlk hc hs hQ fun fs hl => X.returnOut hx hret hd hl
theorem own_getFR {Z : State} {a0 : Array Value} {h : Heap} (X : Stand p l e R s m args below meth c T locs cells slots) (hx : p.tables.exec = Jvm.exec) (hZ : Z.Warmed39 s.vm) {own O n d : String} {index : Nat} (hown : s.vm.findClass own = some m.cls) (w : (Jvm.Cond.fieldRef own index O n d).before a0 Z = true)
    (eT : T.heap = h) {a : Addr} {v : Value} (F : Fld Z h a O n d v) {g : JFrame} (hg : g.method = m) {rest : List Value} (hs : g.stack = .ref a :: rest) (hd : decode c.code g.pc = .ok (.getfield index, 3)) (target : State) (k : Steps p.tables e below (T.setTop { g with pc := g.pc + 3, stack := v :: rest }) target) : Steps p.tables e below (T.setTop g) target := by
  obtain ⟨cell, cf, kc, i, f, h1, h2, h3, h4, -, -, h7⟩ := F
  have hW : Z.Warmed39 T.vm := wtrans hZ X.warmed
  have w2 := Cond.fieldRef_warmed39 hW w
  obtain ⟨k', hi, -⟩ := State.fieldFound?_setVm (s := Z) hW.alike h2
  have hc : (Z.setVm T.vm).vm.findClass own = some m.cls := by show T.vm.findClass own = _; rw [X.warmed.alike.findClass]; exact hown
  obtain ⟨c1, k1, i1, f1, e1, hr⟩ := Cond.fieldRef_spec hc w2
  cases hi.symm.trans e1
  exact (X.getfieldR hx hg (cF := cf) (field := f) hr h3 hs (by rw [eT]; exact h1) h4 h7 hd (Steps.refl _)).trans k
theorem own_ite01 {c : Prop} [Decidable c] {a b : Int32} (ha : a = 0 ∨ a = 1) (hb : b = 0 ∨ b = 1) : (if c then a else b) = 0 ∨ (if c then a else b) = 1 := by split <;> assumption
end OwnKit
theorem own_remI (a b : Int32) : a - a / b * b = a % b := by
  apply Int32.toInt_inj.mp
  rw [Int32.toInt_sub, Int32.toInt_mul, Int32.toInt_div, Int32.toInt_mod]
  rw [Int.bmod_mul_bmod, Int.sub_bmod_bmod]
  have e : a.toInt - a.toInt.tdiv b.toInt * b.toInt = a.toInt.tmod b.toInt := by
    have := Int.mul_tdiv_add_tmod a.toInt b.toInt
    rw [Int.mul_comm] at this
    omega
  rw [e, ← Int32.toInt_mod]
  exact Int.bmod_eq_of_le (by have := Int32.le_toInt (a % b); omega) (by have := Int32.toInt_lt (a % b); omega)
theorem own_remJ (a b : Int64) : a - a / b * b = a % b := by
  apply Int64.toInt_inj.mp
  rw [Int64.toInt_sub, Int64.toInt_mul, Int64.toInt_div, Int64.toInt_mod]
  rw [Int.bmod_mul_bmod, Int.sub_bmod_bmod]
  have e : a.toInt - a.toInt.tdiv b.toInt * b.toInt = a.toInt.tmod b.toInt := by
    have := Int.mul_tdiv_add_tmod a.toInt b.toInt
    rw [Int.mul_comm] at this
    omega
  rw [e, ← Int64.toInt_mod]
  exact Int.bmod_eq_of_le (by have := Int64.le_toInt (a % b); omega) (by have := Int64.toInt_lt (a % b); omega)
theorem own_lc_eq {a b : Int64} (h : a = b) : lcmpW a b = 0 := by subst h; simp [lcmpW]
theorem own_lc_neq {a b : Int64} (h : ¬ (a = b)) : ¬ (lcmpW a b = 0) := by unfold lcmpW; split <;> first | decide | (rw [if_neg h]; decide)
theorem own_lc_lt {a b : Int64} (h : a < b) : lcmpW a b < 0 := by
  have h1 : ¬ (a > b) := fun q => Int64.lt_irrefl (Int64.lt_trans h q)
  have h2 : ¬ (a = b) := fun q => by subst q; exact Int64.lt_irrefl h
  rw [lcmpW, if_neg h1, if_neg h2]; decide
theorem own_lc_nlt {a b : Int64} (h : ¬ (a < b)) : ¬ (lcmpW a b < 0) := by
  unfold lcmpW
  split
  · decide
  · rename_i h1
    split
    · decide
    · rename_i h2; exact absurd (Int64.le_antisymm (Int64.not_lt.mp h1) (Int64.not_lt.mp h)) h2
theorem own_lc_gt {a b : Int64} (h : b < a) : (0 : Int32) < lcmpW a b := by rw [lcmpW, if_pos h]; decide
theorem own_lc_ngt {a b : Int64} (h : ¬ (b < a)) : ¬ ((0 : Int32) < lcmpW a b) := by
  rw [lcmpW, if_neg h]; split <;> decide
theorem own_rn {w : Value} {C : String} (h : w.isRef = true) : narrow (.object C) w = w := by rcases ref_cases h with rfl | ⟨a, rfl⟩ <;> rfl
theorem own_rf {w : Value} {C : String} (h : w.isRef = true) : fits (.object C) w = true := by rcases ref_cases h with rfl | ⟨a, rfl⟩ <;> rfl
theorem own_plainE {Z : State} {h : Heap} {a : Addr} {C : String} (E : Exa Z h a C) : ∀ cell : Cell, h[a]? = some cell → cell.vm.isStatics = false := fun cell hc => by
  obtain ⟨c, k, h1, -, -, h4, -⟩ := E
  cases h1.symm.trans hc; exact h4
theorem own_staKeep {Z : State} {h h' : Heap} {C n d : String} {v : Value} {ws : List Addr} (F : Sta Z h C n d v) (K : Keep h h' ws) (q : ∀ x ∈ ws, ∀ cell : Cell, h[x]? = some cell → cell.vm.isStatics = false) : Sta Z h' C n d v := by
  obtain ⟨cf, i, k, f, st, cell, h1, h2, h3, h4, h5, h6, h7⟩ := F
  exact ⟨cf, i, k, f, st, cell, h1, h2, h3, h4, K.2.1 st cell h5 (fun hm => by rw [q st hm cell h5] at h6; cases h6), h6, h7⟩
def own_up {α : Type} (f : Nat → α) (i : Nat) (v : α) : Nat → α := fun k => if k = i then v else f k
def own_AI (Z : State) (h : Heap) (a : Addr) (ty : FieldType) (n : Nat) (f : Nat → Int32) : Prop := ∃ c : Cell, Arr Z h a c ty ∧ c.slots.size = n ∧ n < 2 ^ 31 ∧ ∀ j, j < n → c.slots[j]? = some (.int (f j))
theorem own_AI.lt {Z : State} {h : Heap} {a : Addr} {ty : FieldType} {n : Nat} {f : Nat → Int32} (F : own_AI Z h a ty n f) : a < h.size := by obtain ⟨c, A, -⟩ := F; exact A.lt
theorem own_AI.ext {Z : State} {h h' : Heap} {a : Addr} {ty : FieldType} {n : Nat} {f : Nat → Int32} (F : own_AI Z h a ty n f) (E : Ext h h') : own_AI Z h' a ty n f := by obtain ⟨c, A, r⟩ := F; exact ⟨c, A.ext E, r⟩
theorem own_AI.other {Z : State} {h h' : Heap} {a b : Addr} {ty : FieldType} {n sl : Nat} {w : Value} {f : Nat → Int32} (F : own_AI Z h a ty n f) (W : Wr h h' b sl w) (q : a ≠ b) : own_AI Z h' a ty n f := by obtain ⟨c, A, r⟩ := F; exact ⟨c, A.other W q, r⟩
theorem own_AI.keep {Z : State} {h h' : Heap} {a : Addr} {ty : FieldType} {n : Nat} {ws : List Addr} {f : Nat → Int32} (F : own_AI Z h a ty n f) (K : Keep h h' ws) (q : a ∉ ws) : own_AI Z h' a ty n f := by obtain ⟨c, A, r⟩ := F; exact ⟨c, ⟨K.2.1 a c A.1 q, A.2⟩, r⟩
theorem own_plainAI {Z : State} {h : Heap} {a : Addr} {ty : FieldType} {n : Nat} {f : Nat → Int32} (F : own_AI Z h a ty n f) : ∀ cell : Cell, h[a]? = some cell → cell.vm.isStatics = false := fun cell hc => by
  obtain ⟨c, A, -⟩ := F
  cases A.1.symm.trans hc; exact A.plain
theorem own_AI.wr {Z : State} {h h' : Heap} {a : Addr} {ty : FieldType} {n i : Nat} {x : Int32} {f : Nat → Int32} (F : own_AI Z h a ty n f) (W : Wr h h' a i (.int x)) : own_AI Z h' a ty n (own_up f i x) := by
  obtain ⟨c, A, S, B, H⟩ := F
  refine ⟨_, A.same W, by rw [sz_set]; exact S, B, fun j hj => ?_⟩
  show (c.slots.setIfInBounds i _)[j]? = _
  rw [Array.getElem?_setIfInBounds]
  by_cases q : i = j
  · subst q
    rw [if_pos rfl, if_pos (by rw [S]; exact hj)]; simp [own_up]
  · rw [if_neg q, H j hj, own_up, if_neg (fun e => q e.symm)]
theorem own_AI.new {Z : State} {h : Heap} {a : Addr} {k : ClassId} {ty : FieldType} {z : Int32} {n : Nat} (A : Arr Z h a (newA k ty z) ty) (hd : defaultValue ty = .int 0) (hn : z.toNatClampNeg = n) : own_AI Z h a ty n (fun _ => 0) := by
  refine ⟨_, A, by rw [sz_new]; exact hn, ?_, fun j hj => ?_⟩
  · have := Int32.toInt_lt z; rw [← hn]; unfold Int32.toNatClampNeg; omega
  · have hs : (newA k ty z).slots.size = n := by rw [sz_new]; exact hn
    simp only [newA] at hs ⊢
    rw [Array.getElem?_replicate, if_pos (by rw [hn]; exact hj), hd]
def own_AJ (Z : State) (h : Heap) (a : Addr) (ty : FieldType) (n : Nat) (f : Nat → Int64) : Prop := ∃ c : Cell, Arr Z h a c ty ∧ c.slots.size = n ∧ n < 2 ^ 31 ∧ ∀ j, j < n → c.slots[j]? = some (.long (f j))
theorem own_AJ.lt {Z : State} {h : Heap} {a : Addr} {ty : FieldType} {n : Nat} {f : Nat → Int64} (F : own_AJ Z h a ty n f) : a < h.size := by obtain ⟨c, A, -⟩ := F; exact A.lt
theorem own_AJ.ext {Z : State} {h h' : Heap} {a : Addr} {ty : FieldType} {n : Nat} {f : Nat → Int64} (F : own_AJ Z h a ty n f) (E : Ext h h') : own_AJ Z h' a ty n f := by obtain ⟨c, A, r⟩ := F; exact ⟨c, A.ext E, r⟩
theorem own_AJ.other {Z : State} {h h' : Heap} {a b : Addr} {ty : FieldType} {n sl : Nat} {w : Value} {f : Nat → Int64} (F : own_AJ Z h a ty n f) (W : Wr h h' b sl w) (q : a ≠ b) : own_AJ Z h' a ty n f := by obtain ⟨c, A, r⟩ := F; exact ⟨c, A.other W q, r⟩
theorem own_AJ.keep {Z : State} {h h' : Heap} {a : Addr} {ty : FieldType} {n : Nat} {ws : List Addr} {f : Nat → Int64} (F : own_AJ Z h a ty n f) (K : Keep h h' ws) (q : a ∉ ws) : own_AJ Z h' a ty n f := by obtain ⟨c, A, r⟩ := F; exact ⟨c, ⟨K.2.1 a c A.1 q, A.2⟩, r⟩
theorem own_plainAJ {Z : State} {h : Heap} {a : Addr} {ty : FieldType} {n : Nat} {f : Nat → Int64} (F : own_AJ Z h a ty n f) : ∀ cell : Cell, h[a]? = some cell → cell.vm.isStatics = false := fun cell hc => by
  obtain ⟨c, A, -⟩ := F
  cases A.1.symm.trans hc; exact A.plain
theorem own_AJ.wr {Z : State} {h h' : Heap} {a : Addr} {ty : FieldType} {n i : Nat} {x : Int64} {f : Nat → Int64} (F : own_AJ Z h a ty n f) (W : Wr h h' a i (.long x)) : own_AJ Z h' a ty n (own_up f i x) := by
  obtain ⟨c, A, S, B, H⟩ := F
  refine ⟨_, A.same W, by rw [sz_set]; exact S, B, fun j hj => ?_⟩
  show (c.slots.setIfInBounds i _)[j]? = _
  rw [Array.getElem?_setIfInBounds]
  by_cases q : i = j
  · subst q
    rw [if_pos rfl, if_pos (by rw [S]; exact hj)]; simp [own_up]
  · rw [if_neg q, H j hj, own_up, if_neg (fun e => q e.symm)]
theorem own_AJ.new {Z : State} {h : Heap} {a : Addr} {k : ClassId} {ty : FieldType} {z : Int32} {n : Nat} (A : Arr Z h a (newA k ty z) ty) (hd : defaultValue ty = .long 0) (hn : z.toNatClampNeg = n) : own_AJ Z h a ty n (fun _ => 0) := by
  refine ⟨_, A, by rw [sz_new]; exact hn, ?_, fun j hj => ?_⟩
  · have := Int32.toInt_lt z; rw [← hn]; unfold Int32.toNatClampNeg; omega
  · have hs : (newA k ty z).slots.size = n := by rw [sz_new]; exact hn
    simp only [newA] at hs ⊢
    rw [Array.getElem?_replicate, if_pos (by rw [hn]; exact hj), hd]
section OwnArr
variable {p : Program} {l : Launch} {e : Env} {R : Room} {s : State} {m : MethodId} {args : Array Value} {below : List Frame} {meth : Method} {c : Code} {T : State} {locs : List Loc} {cells slots : Nat} {Z : State} {h : Heap}
theorem own_inb {j : Int32} {n k : Nat} (S : k = n) (hj : ¬ j < 0 ∧ j.toNatClampNeg < n) : ¬ (j < 0 ∨ k ≤ j.toNatClampNeg) := fun q => q.elim hj.1 (fun u => absurd hj.2 (by omega))
theorem own_ldI (X : Stand p l e R s m args below meth c T locs cells slots) (hx : p.tables.exec = Jvm.exec) (hZ : Z.Warmed39 s.vm) (eT : T.heap = h) {a : Addr} {n : Nat} {f : Nat → Int32} (A : own_AI Z h a .int n f) {j : Int32} (hj : ¬ j < 0 ∧ j.toNatClampNeg < n)
    {g : JFrame} (hg : g.method = m) {rest : List Value} (hs : g.stack = .int j :: .ref a :: rest) (hd : decode c.code g.pc = .ok (.iaload, 1)) (target : State) (k : Steps p.tables e below (T.setTop { g with pc := g.pc + 1, stack := .int (f j.toNatClampNeg) :: rest }) target) : Steps p.tables e below (T.setTop g) target := by
  obtain ⟨c', Ar, S, -, H⟩ := A
  exact X.iaload hx (by rw [eT]; exact Ar.1) (State.isArrayOf_alike hZ.alike Ar.2.1) Ar.2.2 (own_inb S hj) (H _ hj.2) hg hs hd target k
theorem own_ldB (X : Stand p l e R s m args below meth c T locs cells slots) (hx : p.tables.exec = Jvm.exec) (hZ : Z.Warmed39 s.vm) (eT : T.heap = h) {a : Addr} {n : Nat} {f : Nat → Int32} (A : own_AI Z h a .byte n f) {j : Int32} (hj : ¬ j < 0 ∧ j.toNatClampNeg < n)
    {g : JFrame} (hg : g.method = m) {rest : List Value} (hs : g.stack = .int j :: .ref a :: rest) (hd : decode c.code g.pc = .ok (.baload, 1)) (target : State) (k : Steps p.tables e below (T.setTop { g with pc := g.pc + 1, stack := .int (f j.toNatClampNeg) :: rest }) target) : Steps p.tables e below (T.setTop g) target := by
  obtain ⟨c', Ar, S, -, H⟩ := A
  exact X.baloadBytes hx (by rw [eT]; exact Ar.1) (State.isArrayOf_alike hZ.alike Ar.2.1) Ar.2.2 (own_inb S hj) (H _ hj.2) hg hs hd target k
theorem own_ldJ (X : Stand p l e R s m args below meth c T locs cells slots) (hx : p.tables.exec = Jvm.exec) (hZ : Z.Warmed39 s.vm) (eT : T.heap = h) {a : Addr} {n : Nat} {f : Nat → Int64} (A : own_AJ Z h a .long n f) {j : Int32} (hj : ¬ j < 0 ∧ j.toNatClampNeg < n)
    {g : JFrame} (hg : g.method = m) {rest : List Value} (hs : g.stack = .int j :: .ref a :: rest) (hd : decode c.code g.pc = .ok (.laload, 1)) (target : State) (k : Steps p.tables e below (T.setTop { g with pc := g.pc + 1, stack := .long (f j.toNatClampNeg) :: rest }) target) : Steps p.tables e below (T.setTop g) target := by
  obtain ⟨c', Ar, S, -, H⟩ := A
  exact X.laload hx (by rw [eT]; exact Ar.1) (State.isArrayOf_alike hZ.alike Ar.2.1) Ar.2.2 (own_inb S hj) (H _ hj.2) hg hs hd target k
theorem own_lenI (X : Stand p l e R s m args below meth c T locs cells slots) (hx : p.tables.exec = Jvm.exec) (hZ : Z.Warmed39 s.vm) (eT : T.heap = h) {a : Addr} {ty : FieldType} {n : Nat} {f : Nat → Int32} (A : own_AI Z h a ty n f)
    {g : JFrame} (hg : g.method = m) {rest : List Value} (hs : g.stack = .ref a :: rest) (hd : decode c.code g.pc = .ok (.arraylength, 1)) (target : State) (k : Steps p.tables e below (T.setTop { g with pc := g.pc + 1, stack := .int (n.toInt32) :: rest }) target) : Steps p.tables e below (T.setTop g) target := by
  obtain ⟨c', Ar, S, -, H⟩ := A
  exact X.arraylength hx (by rw [eT]; exact Ar.1) (State.isArrayOf_alike hZ.alike Ar.2.1) hg hs hd target (by rw [S]; exact k)
theorem own_lenJ (X : Stand p l e R s m args below meth c T locs cells slots) (hx : p.tables.exec = Jvm.exec) (hZ : Z.Warmed39 s.vm) (eT : T.heap = h) {a : Addr} {ty : FieldType} {n : Nat} {f : Nat → Int64} (A : own_AJ Z h a ty n f)
    {g : JFrame} (hg : g.method = m) {rest : List Value} (hs : g.stack = .ref a :: rest) (hd : decode c.code g.pc = .ok (.arraylength, 1)) (target : State) (k : Steps p.tables e below (T.setTop { g with pc := g.pc + 1, stack := .int (n.toInt32) :: rest }) target) : Steps p.tables e below (T.setTop g) target := by
  obtain ⟨c', Ar, S, -, H⟩ := A
  exact X.arraylength hx (by rw [eT]; exact Ar.1) (State.isArrayOf_alike hZ.alike Ar.2.1) hg hs hd target (by rw [S]; exact k)
theorem own_stI (X : Stand p l e R s m args below meth c T locs cells slots) (hx : p.tables.exec = Jvm.exec) (hZ : Z.Warmed39 s.vm) (eT : T.heap = h) {a : Addr} {n : Nat} {f : Nat → Int32} (A : own_AI Z h a .int n f) {j x : Int32} (hj : ¬ j < 0 ∧ j.toNatClampNeg < n)
    {g : JFrame} (hg : g.method = m) {rest : List Value} (hs : g.stack = .int x :: .int j :: .ref a :: rest) (hd : decode c.code g.pc = .ok (.iastore, 1)) :
    ∃ T' h', Stand p l e R s m args below meth c T' (locs ++ [⟨a, j.toNatClampNeg⟩]) cells slots ∧ T'.heap = h' ∧ Wr h h' a j.toNatClampNeg (.int x) ∧ own_AI Z h' a .int n (own_up f j.toNatClampNeg x) ∧ ∀ target, Steps p.tables e below (T'.setTop { g with pc := g.pc + 1, stack := rest }) target → Steps p.tables e below (T.setTop g) target := by
  have A2 := A
  obtain ⟨c', Ar, S, -, H⟩ := A
  obtain ⟨T', h', X', e', W, st⟩ := stI X hx hZ eT Ar (j := j) (x := x) (own_inb S hj) hg hs hd
  exact ⟨T', h', X', e', W, A2.wr W, st⟩
theorem own_stB (X : Stand p l e R s m args below meth c T locs cells slots) (hx : p.tables.exec = Jvm.exec) (hZ : Z.Warmed39 s.vm) (eT : T.heap = h) {a : Addr} {n : Nat} {f : Nat → Int32} (A : own_AI Z h a .byte n f) {j x : Int32} (hj : ¬ j < 0 ∧ j.toNatClampNeg < n)
    {g : JFrame} (hg : g.method = m) {rest : List Value} (hs : g.stack = .int x :: .int j :: .ref a :: rest) (hd : decode c.code g.pc = .ok (.bastore, 1)) :
    ∃ T' h', Stand p l e R s m args below meth c T' (locs ++ [⟨a, j.toNatClampNeg⟩]) cells slots ∧ T'.heap = h' ∧ Wr h h' a j.toNatClampNeg (.int (nar .byte x)) ∧ own_AI Z h' a .byte n (own_up f j.toNatClampNeg (nar .byte x)) ∧ ∀ target, Steps p.tables e below (T'.setTop { g with pc := g.pc + 1, stack := rest }) target → Steps p.tables e below (T.setTop g) target := by
  have A2 := A
  obtain ⟨c', Ar, S, -, H⟩ := A
  obtain ⟨T', h', X', e', W, st⟩ := stB X hx hZ eT Ar (j := j) (x := x) (own_inb S hj) hg hs hd
  exact ⟨T', h', X', e', W, A2.wr W, st⟩
theorem own_stC (X : Stand p l e R s m args below meth c T locs cells slots) (hx : p.tables.exec = Jvm.exec) (hZ : Z.Warmed39 s.vm) (eT : T.heap = h) {a : Addr} {n : Nat} {f : Nat → Int32} (A : own_AI Z h a .char n f) {j x : Int32} (hj : ¬ j < 0 ∧ j.toNatClampNeg < n)
    {g : JFrame} (hg : g.method = m) {rest : List Value} (hs : g.stack = .int x :: .int j :: .ref a :: rest) (hd : decode c.code g.pc = .ok (.castore, 1)) :
    ∃ T' h', Stand p l e R s m args below meth c T' (locs ++ [⟨a, j.toNatClampNeg⟩]) cells slots ∧ T'.heap = h' ∧ Wr h h' a j.toNatClampNeg (.int (nar .char x)) ∧ own_AI Z h' a .char n (own_up f j.toNatClampNeg (nar .char x)) ∧ ∀ target, Steps p.tables e below (T'.setTop { g with pc := g.pc + 1, stack := rest }) target → Steps p.tables e below (T.setTop g) target := by
  have A2 := A
  obtain ⟨c', Ar, S, -, H⟩ := A
  obtain ⟨T', h', X', e', W, st⟩ := stC X hx hZ eT Ar (j := j) (x := x) (own_inb S hj) hg hs hd
  exact ⟨T', h', X', e', W, A2.wr W, st⟩
theorem own_stJ (X : Stand p l e R s m args below meth c T locs cells slots) (hx : p.tables.exec = Jvm.exec) (hZ : Z.Warmed39 s.vm) (eT : T.heap = h) {a : Addr} {n : Nat} {f : Nat → Int64} (A : own_AJ Z h a .long n f) {j : Int32} {x : Int64} (hj : ¬ j < 0 ∧ j.toNatClampNeg < n)
    {g : JFrame} (hg : g.method = m) {rest : List Value} (hs : g.stack = .long x :: .int j :: .ref a :: rest) (hd : decode c.code g.pc = .ok (.lastore, 1)) :
    ∃ T' h', Stand p l e R s m args below meth c T' (locs ++ [⟨a, j.toNatClampNeg⟩]) cells slots ∧ T'.heap = h' ∧ Wr h h' a j.toNatClampNeg (.long x) ∧ own_AJ Z h' a .long n (own_up f j.toNatClampNeg x) ∧ ∀ target, Steps p.tables e below (T'.setTop { g with pc := g.pc + 1, stack := rest }) target → Steps p.tables e below (T.setTop g) target := by
  have A2 := A
  obtain ⟨c', Ar, S, -, H⟩ := A
  obtain ⟨T', h', X', e', W, st⟩ := stJ X hx hZ eT Ar (j := j) (x := x) (own_inb S hj) hg hs hd
  exact ⟨T', h', X', e', W, A2.wr W, st⟩
end OwnArr
theorem d3_0 : decode jdk_33_method_47_code 0 = .ok (.iload_n 0, 1) := by decide +kernel
theorem d3_1 : decode jdk_33_method_47_code 1 = .ok (.ifCond .gt 14, 3) := by decide +kernel
theorem d3_4 : decode jdk_33_method_47_code 4 = .ok (.iload_n 0, 1) := by decide +kernel
theorem d3_5 : decode jdk_33_method_47_code 5 = .ok (.ifCond .ne 8, 3) := by decide +kernel
theorem d3_8 : decode jdk_33_method_47_code 8 = .ok (.bipush 32, 2) := by decide +kernel
theorem d3_10 : decode jdk_33_method_47_code 10 = .ok (.goto 4, 3) := by decide +kernel
theorem d3_13 : decode jdk_33_method_47_code 13 = .ok (.iconst 0, 1) := by decide +kernel
theorem d3_14 : decode jdk_33_method_47_code 14 = .ok (.ireturn, 1) := by decide +kernel
theorem d3_15 : decode jdk_33_method_47_code 15 = .ok (.bipush 31, 2) := by decide +kernel
theorem d3_17 : decode jdk_33_method_47_code 17 = .ok (.istore_n 1, 1) := by decide +kernel
theorem d3_18 : decode jdk_33_method_47_code 18 = .ok (.iload_n 0, 1) := by decide +kernel
theorem d3_19 : decode jdk_33_method_47_code 19 = .ok (.ldc_w 264, 3) := by decide +kernel
theorem d3_22 : decode jdk_33_method_47_code 22 = .ok (.if_icmp .lt 11, 3) := by decide +kernel
theorem d3_25 : decode jdk_33_method_47_code 25 = .ok (.iinc 1 (-16), 3) := by decide +kernel
theorem d3_28 : decode jdk_33_method_47_code 28 = .ok (.iload_n 0, 1) := by decide +kernel
theorem d3_29 : decode jdk_33_method_47_code 29 = .ok (.bipush 16, 2) := by decide +kernel
theorem d3_31 : decode jdk_33_method_47_code 31 = .ok (.iushr, 1) := by decide +kernel
theorem d3_32 : decode jdk_33_method_47_code 32 = .ok (.istore_n 0, 1) := by decide +kernel
theorem d3_33 : decode jdk_33_method_47_code 33 = .ok (.iload_n 0, 1) := by decide +kernel
theorem d3_34 : decode jdk_33_method_47_code 34 = .ok (.sipush 256, 3) := by decide +kernel
theorem d3_37 : decode jdk_33_method_47_code 37 = .ok (.if_icmp .lt 11, 3) := by decide +kernel
theorem d3_40 : decode jdk_33_method_47_code 40 = .ok (.iinc 1 (-8), 3) := by decide +kernel
theorem d3_43 : decode jdk_33_method_47_code 43 = .ok (.iload_n 0, 1) := by decide +kernel
theorem d3_44 : decode jdk_33_method_47_code 44 = .ok (.bipush 8, 2) := by decide +kernel
theorem d3_46 : decode jdk_33_method_47_code 46 = .ok (.iushr, 1) := by decide +kernel
theorem d3_47 : decode jdk_33_method_47_code 47 = .ok (.istore_n 0, 1) := by decide +kernel
theorem d3_48 : decode jdk_33_method_47_code 48 = .ok (.iload_n 0, 1) := by decide +kernel
theorem d3_49 : decode jdk_33_method_47_code 49 = .ok (.bipush 16, 2) := by decide +kernel
theorem d3_51 : decode jdk_33_method_47_code 51 = .ok (.if_icmp .lt 10, 3) := by decide +kernel
theorem d3_54 : decode jdk_33_method_47_code 54 = .ok (.iinc 1 (-4), 3) := by decide +kernel
theorem d3_57 : decode jdk_33_method_47_code 57 = .ok (.iload_n 0, 1) := by decide +kernel
theorem d3_58 : decode jdk_33_method_47_code 58 = .ok (.iconst 4, 1) := by decide +kernel
theorem d3_59 : decode jdk_33_method_47_code 59 = .ok (.iushr, 1) := by decide +kernel
theorem d3_60 : decode jdk_33_method_47_code 60 = .ok (.istore_n 0, 1) := by decide +kernel
theorem d3_61 : decode jdk_33_method_47_code 61 = .ok (.iload_n 0, 1) := by decide +kernel
theorem d3_62 : decode jdk_33_method_47_code 62 = .ok (.iconst 4, 1) := by decide +kernel
theorem d3_63 : decode jdk_33_method_47_code 63 = .ok (.if_icmp .lt 10, 3) := by decide +kernel
theorem d3_66 : decode jdk_33_method_47_code 66 = .ok (.iinc 1 (-2), 3) := by decide +kernel
theorem d3_69 : decode jdk_33_method_47_code 69 = .ok (.iload_n 0, 1) := by decide +kernel
theorem d3_70 : decode jdk_33_method_47_code 70 = .ok (.iconst 2, 1) := by decide +kernel
theorem d3_71 : decode jdk_33_method_47_code 71 = .ok (.iushr, 1) := by decide +kernel
theorem d3_72 : decode jdk_33_method_47_code 72 = .ok (.istore_n 0, 1) := by decide +kernel
theorem d3_73 : decode jdk_33_method_47_code 73 = .ok (.iload_n 1, 1) := by decide +kernel
theorem d3_74 : decode jdk_33_method_47_code 74 = .ok (.iload_n 0, 1) := by decide +kernel
theorem d3_75 : decode jdk_33_method_47_code 75 = .ok (.iconst 1, 1) := by decide +kernel
theorem d3_76 : decode jdk_33_method_47_code 76 = .ok (.iushr, 1) := by decide +kernel
theorem d3_77 : decode jdk_33_method_47_code 77 = .ok (.isub, 1) := by decide +kernel
theorem d3_78 : decode jdk_33_method_47_code 78 = .ok (.ireturn, 1) := by decide +kernel
theorem ef_3 (m : MethodId) (p0 : Int32) : entryFrame m #[(.int p0)] 2 = mkF m 0 #[.val (.int p0), .unset] [] := by (first | (simp [entryFrame, mkF, argsToLocals, Value.category]; done) | rfl)
def own_r3_v3 (p0 : Int32) : Int32 := ((31 : Int32) + (-16 : Int32))
def own_r3_v4 (p0 : Int32) : Int32 := ((p0.toUInt32 >>> ((16 : Int32) &&& 31).toUInt32).toInt32)
def own_r3_v5 (p0 : Int32) : Int32 := (if p0 < (65536 : Int32) then p0 else (own_r3_v4 p0))
def own_r3_v6 (p0 : Int32) : Int32 := (if p0 < (65536 : Int32) then (31 : Int32) else (own_r3_v3 p0))
def own_r3_v8 (p0 : Int32) : Int32 := ((own_r3_v6 p0) + (-8 : Int32))
def own_r3_v9 (p0 : Int32) : Int32 := (((own_r3_v5 p0).toUInt32 >>> ((8 : Int32) &&& 31).toUInt32).toInt32)
def own_r3_v10 (p0 : Int32) : Int32 := (if (own_r3_v5 p0) < (256 : Int32) then (own_r3_v5 p0) else (own_r3_v9 p0))
def own_r3_v11 (p0 : Int32) : Int32 := (if (own_r3_v5 p0) < (256 : Int32) then (own_r3_v6 p0) else (own_r3_v8 p0))
def own_r3_v13 (p0 : Int32) : Int32 := ((own_r3_v11 p0) + (-4 : Int32))
def own_r3_v14 (p0 : Int32) : Int32 := (((own_r3_v10 p0).toUInt32 >>> ((4 : Int32) &&& 31).toUInt32).toInt32)
def own_r3_v15 (p0 : Int32) : Int32 := (if (own_r3_v10 p0) < (16 : Int32) then (own_r3_v10 p0) else (own_r3_v14 p0))
def own_r3_v16 (p0 : Int32) : Int32 := (if (own_r3_v10 p0) < (16 : Int32) then (own_r3_v11 p0) else (own_r3_v13 p0))
def own_r3_v18 (p0 : Int32) : Int32 := ((own_r3_v16 p0) + (-2 : Int32))
def own_r3_v19 (p0 : Int32) : Int32 := (((own_r3_v15 p0).toUInt32 >>> ((2 : Int32) &&& 31).toUInt32).toInt32)
def own_r3_v20 (p0 : Int32) : Int32 := (if (own_r3_v15 p0) < (4 : Int32) then (own_r3_v15 p0) else (own_r3_v19 p0))
def own_r3_v21 (p0 : Int32) : Int32 := (if (own_r3_v15 p0) < (4 : Int32) then (own_r3_v16 p0) else (own_r3_v18 p0))
def own_r3_v22 (p0 : Int32) : Int32 := ((own_r3_v21 p0) - (((own_r3_v20 p0).toUInt32 >>> ((1 : Int32) &&& 31).toUInt32).toInt32))
def own_r3_v24 (p0 : Int32) : Int32 := (if p0 = (0 : Int32) then (32 : Int32) else (0 : Int32))
def own_r3 (p0 : Int32) : Int32 := (if (0 : Int32) < p0 then (own_r3_v22 p0) else (own_r3_v24 p0))
theorem pn0 : plainName "java/lang/Integer" = true := by first | (simp [plainName, overriddenIn]; done) | decide +kernel
def Q3 (Z : State) (p0 : Int32) (h0 : Heap) (n0 : Nat) (v : Option Value) (h : Heap) (L : List Loc) : Prop := v = some (.int (own_r3 p0)) ∧ Fr n0 L ∧ h = h0
set_option maxRecDepth 65536 in
set_option maxHeartbeats 40000000 in
theorem rm3 (l : Launch) (Z : State) (a0 : Array Value) (hw : ∀ d ∈ tables_1, d.before a0 Z = true) (ws : List Jvm.Cond) (p0 : Int32) (h0 : Heap) (n0 : Nat) (Z0 : n0 ≤ h0.size) :
    MetFree l (⟨"java/lang/Integer", "numberOfLeadingZeros", "(I)I"⟩ : MethodName) (head1 (Jvm.Cond.code (⟨"java/lang/Integer", "numberOfLeadingZeros", "(I)I"⟩ : MethodName) jdk_33_method_47_code 2 (some .int) :: ws) ({ frames := 0, cells := 0, slots := 0, locals := 0 } : Room)) (fun a U => a = #[(.int p0)] ∧ Z.Warmed39 U.vm ∧ U.heap = h0) (fun _ _ _ _ _ => True) (fun _ U o U' => ∃ v L, o = .returned v ∧ Q3 Z p0 h0 n0 v U'.heap L ∧ FrameEnd U o U' L ({ frames := 0, cells := 0, slots := 0, locals := 0 } : Room).cells ({ frames := 0, cells := 0, slots := 0, locals := 0 } : Room).slots) := by
  refine MetFree.of_bodySF (plainFor_of_name pn0) hisR ?_
  intro p e s m args below meth c s₁ Bd hml0 hP hK
  obtain ⟨rfl, hZ, hh⟩ := hP
  have hx := Bd.exec
  have hby := Bd.bytes
  have hml : c.maxLocals = 2 := hml0
  have hown : s.vm.findClass "java/lang/Integer" = some m.cls := findClass_of_methodNamed Bd.named
  have hnm := (name_of_methodNamed Bd.named Bd.method).1
  have X0 : Stand p l e ({ frames := 0, cells := 0, slots := 0, locals := 0 } : Room) s m #[(.int p0)] below meth c s₁ [] 0 0 := Stand.of_body Bd
  have e0 : s₁.heap = h0 := by rw [← hh, Bd.state]; rfl
  have N0 := Fr.nil n0
  have K0 : Keep h0 h0 [] := Keep.refl h0 _
  show own_Go p e below s (Q3 Z p0 h0 n0) ({ frames := 0, cells := 0, slots := 0, locals := 0 } : Room).cells ({ frames := 0, cells := 0, slots := 0, locals := 0 } : Room).slots (s₁.setTop (entryFrame m #[(.int p0)] 2))
  refine own_go (fun t k => castTop (ef_3 m p0) k) ?_
  have hgo101 : ∀ t, Steps p.tables e below (s₁.setTop (mkF m 1 #[.val (.int p0), .unset] [(.int p0)])) t → Steps p.tables e below (s₁.setTop (mkF m 0 #[.val (.int p0), .unset] [])) t := by
    intro t kt
    show Steps p.tables e below (s₁.setTop (mkF m 0 #[.val (.int p0), .unset] [])) _
    refine XS.iloadN X0.here hx rfl (hb hby d3_0) rfl ?_
    exact kt
  refine own_go hgo101 ?_
  by_cases hc1_1 : (0 : Int32) < p0
  · obtain ⟨v3, hv3⟩ : ∃ z : Int32, z = ((31 : Int32) + (-16 : Int32)) := ⟨_, rfl⟩
    obtain ⟨v4, hv4⟩ : ∃ z : Int32, z = ((p0.toUInt32 >>> ((16 : Int32) &&& 31).toUInt32).toInt32) := ⟨_, rfl⟩
    obtain ⟨v5, hv5⟩ : ∃ z : Int32, z = (if p0 < (65536 : Int32) then p0 else v4) := ⟨_, rfl⟩
    obtain ⟨v6, hv6⟩ : ∃ z : Int32, z = (if p0 < (65536 : Int32) then (31 : Int32) else v3) := ⟨_, rfl⟩
    obtain ⟨T104, lc104, X104, N104, e104, st104⟩ := own_mrg (n0 := n0) (h := h0) (g := (mkF m 22 #[.val (.int p0), .val (.int (31 : Int32))] [(.int (65536 : Int32)), (.int p0)])) (g' := (mkF m 33 #[.val (.int v5), .val (.int v6)] [])) X0 (by
      by_cases hc22_2 : p0 < (65536 : Int32)
      · have hgo102 : ∀ t, Steps p.tables e below (s₁.setTop (mkF m 33 #[.val (.int p0), .val (.int (31 : Int32))] [])) t → Steps p.tables e below (s₁.setTop (mkF m 22 #[.val (.int p0), .val (.int (31 : Int32))] [(.int (65536 : Int32)), (.int p0)])) t := by
          intro t kt
          show Steps p.tables e below (s₁.setTop (mkF m 22 #[.val (.int p0), .val (.int (31 : Int32))] [(.int (65536 : Int32)), (.int p0)])) _
          refine XS.icmpYes X0.here hx rfl (pc0 := 22) (pc' := 33) rfl (hb hby d3_22) rfl (tlt hc22_2).1 (by decide) (by decide) ?_
          exact kt
        refine own_arm hgo102 ?_
        exact own_armEnd X0 N0 e0 (by rw [hv5.trans (if_pos hc22_2), hv6.trans (if_pos hc22_2)])
      · have hgo103 : ∀ t, Steps p.tables e below (s₁.setTop (mkF m 33 #[.val (.int v4), .val (.int v3)] [])) t → Steps p.tables e below (s₁.setTop (mkF m 22 #[.val (.int p0), .val (.int (31 : Int32))] [(.int (65536 : Int32)), (.int p0)])) t := by
          intro t kt
          show Steps p.tables e below (s₁.setTop (mkF m 22 #[.val (.int p0), .val (.int (31 : Int32))] [(.int (65536 : Int32)), (.int p0)])) _
          refine XS.icmpNo X0.here hx rfl (hb hby d3_22) rfl (flt hc22_2).1 ?_
          show Steps p.tables e below (s₁.setTop (mkF m 25 #[.val (.int p0), .val (.int (31 : Int32))] [])) _
          refine XS.iinc X0.here hx rfl (hb hby d3_25) rfl (l' := #[.val (.int p0), .val (.int ((31 : Int32) + (-16 : Int32)))]) rfl ?_
          rw [← hv3]
          show Steps p.tables e below (s₁.setTop (mkF m 28 #[.val (.int p0), .val (.int v3)] [])) _
          refine XS.iloadN X0.here hx rfl (hb hby d3_28) rfl ?_
          show Steps p.tables e below (s₁.setTop (mkF m 29 #[.val (.int p0), .val (.int v3)] [(.int p0)])) _
          refine XS.bipush X0.here hx rfl (hb hby d3_29) ?_
          show Steps p.tables e below (s₁.setTop (mkF m 31 #[.val (.int p0), .val (.int v3)] [(.int (16 : Int32)), (.int p0)])) _
          refine XS.iushr X0.here hx rfl (hb hby d3_31) rfl ?_
          show Steps p.tables e below (s₁.setTop (mkF m 32 #[.val (.int p0), .val (.int v3)] [(.int ((p0.toUInt32 >>> ((16 : Int32) &&& 31).toUInt32).toInt32))])) _
          rw [← hv4]
          show Steps p.tables e below (s₁.setTop (mkF m 32 #[.val (.int p0), .val (.int v3)] [(.int v4)])) _
          refine XS.istoreN X0.here hx rfl (hb hby d3_32) rfl (l' := #[.val (.int v4), .val (.int v3)]) rfl ?_
          exact kt
        refine own_arm hgo103 ?_
        exact own_armEnd X0 N0 e0 (by rw [hv5.trans (if_neg hc22_2), hv6.trans (if_neg hc22_2)]))
    obtain ⟨v8, hv8⟩ : ∃ z : Int32, z = (v6 + (-8 : Int32)) := ⟨_, rfl⟩
    obtain ⟨v9, hv9⟩ : ∃ z : Int32, z = ((v5.toUInt32 >>> ((8 : Int32) &&& 31).toUInt32).toInt32) := ⟨_, rfl⟩
    obtain ⟨v10, hv10⟩ : ∃ z : Int32, z = (if v5 < (256 : Int32) then v5 else v9) := ⟨_, rfl⟩
    obtain ⟨v11, hv11⟩ : ∃ z : Int32, z = (if v5 < (256 : Int32) then v6 else v8) := ⟨_, rfl⟩
    obtain ⟨T107, lc107, X107, N107, e107, st107⟩ := own_mrg (n0 := n0) (h := h0) (g := (mkF m 37 #[.val (.int v5), .val (.int v6)] [(.int (256 : Int32)), (.int v5)])) (g' := (mkF m 48 #[.val (.int v10), .val (.int v11)] [])) X104 (by
      by_cases hc37_7 : v5 < (256 : Int32)
      · have hgo105 : ∀ t, Steps p.tables e below (T104.setTop (mkF m 48 #[.val (.int v5), .val (.int v6)] [])) t → Steps p.tables e below (T104.setTop (mkF m 37 #[.val (.int v5), .val (.int v6)] [(.int (256 : Int32)), (.int v5)])) t := by
          intro t kt
          show Steps p.tables e below (T104.setTop (mkF m 37 #[.val (.int v5), .val (.int v6)] [(.int (256 : Int32)), (.int v5)])) _
          refine XS.icmpYes X104.here hx rfl (pc0 := 37) (pc' := 48) rfl (hb hby d3_37) rfl (tlt hc37_7).1 (by decide) (by decide) ?_
          exact kt
        refine own_arm hgo105 ?_
        exact own_armEnd X104 N104 e104 (by rw [hv10.trans (if_pos hc37_7), hv11.trans (if_pos hc37_7)])
      · have hgo106 : ∀ t, Steps p.tables e below (T104.setTop (mkF m 48 #[.val (.int v9), .val (.int v8)] [])) t → Steps p.tables e below (T104.setTop (mkF m 37 #[.val (.int v5), .val (.int v6)] [(.int (256 : Int32)), (.int v5)])) t := by
          intro t kt
          show Steps p.tables e below (T104.setTop (mkF m 37 #[.val (.int v5), .val (.int v6)] [(.int (256 : Int32)), (.int v5)])) _
          refine XS.icmpNo X104.here hx rfl (hb hby d3_37) rfl (flt hc37_7).1 ?_
          show Steps p.tables e below (T104.setTop (mkF m 40 #[.val (.int v5), .val (.int v6)] [])) _
          refine XS.iinc X104.here hx rfl (hb hby d3_40) rfl (l' := #[.val (.int v5), .val (.int (v6 + (-8 : Int32)))]) rfl ?_
          rw [← hv8]
          show Steps p.tables e below (T104.setTop (mkF m 43 #[.val (.int v5), .val (.int v8)] [])) _
          refine XS.iloadN X104.here hx rfl (hb hby d3_43) rfl ?_
          show Steps p.tables e below (T104.setTop (mkF m 44 #[.val (.int v5), .val (.int v8)] [(.int v5)])) _
          refine XS.bipush X104.here hx rfl (hb hby d3_44) ?_
          show Steps p.tables e below (T104.setTop (mkF m 46 #[.val (.int v5), .val (.int v8)] [(.int (8 : Int32)), (.int v5)])) _
          refine XS.iushr X104.here hx rfl (hb hby d3_46) rfl ?_
          show Steps p.tables e below (T104.setTop (mkF m 47 #[.val (.int v5), .val (.int v8)] [(.int ((v5.toUInt32 >>> ((8 : Int32) &&& 31).toUInt32).toInt32))])) _
          rw [← hv9]
          show Steps p.tables e below (T104.setTop (mkF m 47 #[.val (.int v5), .val (.int v8)] [(.int v9)])) _
          refine XS.istoreN X104.here hx rfl (hb hby d3_47) rfl (l' := #[.val (.int v9), .val (.int v8)]) rfl ?_
          exact kt
        refine own_arm hgo106 ?_
        exact own_armEnd X104 N104 e104 (by rw [hv10.trans (if_neg hc37_7), hv11.trans (if_neg hc37_7)]))
    obtain ⟨v13, hv13⟩ : ∃ z : Int32, z = (v11 + (-4 : Int32)) := ⟨_, rfl⟩
    obtain ⟨v14, hv14⟩ : ∃ z : Int32, z = ((v10.toUInt32 >>> ((4 : Int32) &&& 31).toUInt32).toInt32) := ⟨_, rfl⟩
    obtain ⟨v15, hv15⟩ : ∃ z : Int32, z = (if v10 < (16 : Int32) then v10 else v14) := ⟨_, rfl⟩
    obtain ⟨v16, hv16⟩ : ∃ z : Int32, z = (if v10 < (16 : Int32) then v11 else v13) := ⟨_, rfl⟩
    obtain ⟨T110, lc110, X110, N110, e110, st110⟩ := own_mrg (n0 := n0) (h := h0) (g := (mkF m 51 #[.val (.int v10), .val (.int v11)] [(.int (16 : Int32)), (.int v10)])) (g' := (mkF m 61 #[.val (.int v15), .val (.int v16)] [])) X107 (by
      by_cases hc51_12 : v10 < (16 : Int32)
      · have hgo108 : ∀ t, Steps p.tables e below (T107.setTop (mkF m 61 #[.val (.int v10), .val (.int v11)] [])) t → Steps p.tables e below (T107.setTop (mkF m 51 #[.val (.int v10), .val (.int v11)] [(.int (16 : Int32)), (.int v10)])) t := by
          intro t kt
          show Steps p.tables e below (T107.setTop (mkF m 51 #[.val (.int v10), .val (.int v11)] [(.int (16 : Int32)), (.int v10)])) _
          refine XS.icmpYes X107.here hx rfl (pc0 := 51) (pc' := 61) rfl (hb hby d3_51) rfl (tlt hc51_12).1 (by decide) (by decide) ?_
          exact kt
        refine own_arm hgo108 ?_
        exact own_armEnd X107 N107 e107 (by rw [hv15.trans (if_pos hc51_12), hv16.trans (if_pos hc51_12)])
      · have hgo109 : ∀ t, Steps p.tables e below (T107.setTop (mkF m 61 #[.val (.int v14), .val (.int v13)] [])) t → Steps p.tables e below (T107.setTop (mkF m 51 #[.val (.int v10), .val (.int v11)] [(.int (16 : Int32)), (.int v10)])) t := by
          intro t kt
          show Steps p.tables e below (T107.setTop (mkF m 51 #[.val (.int v10), .val (.int v11)] [(.int (16 : Int32)), (.int v10)])) _
          refine XS.icmpNo X107.here hx rfl (hb hby d3_51) rfl (flt hc51_12).1 ?_
          show Steps p.tables e below (T107.setTop (mkF m 54 #[.val (.int v10), .val (.int v11)] [])) _
          refine XS.iinc X107.here hx rfl (hb hby d3_54) rfl (l' := #[.val (.int v10), .val (.int (v11 + (-4 : Int32)))]) rfl ?_
          rw [← hv13]
          show Steps p.tables e below (T107.setTop (mkF m 57 #[.val (.int v10), .val (.int v13)] [])) _
          refine XS.iloadN X107.here hx rfl (hb hby d3_57) rfl ?_
          show Steps p.tables e below (T107.setTop (mkF m 58 #[.val (.int v10), .val (.int v13)] [(.int v10)])) _
          refine XS.iconst X107.here hx rfl (hb hby d3_58) ?_
          show Steps p.tables e below (T107.setTop (mkF m 59 #[.val (.int v10), .val (.int v13)] [(.int (4 : Int32)), (.int v10)])) _
          refine XS.iushr X107.here hx rfl (hb hby d3_59) rfl ?_
          show Steps p.tables e below (T107.setTop (mkF m 60 #[.val (.int v10), .val (.int v13)] [(.int ((v10.toUInt32 >>> ((4 : Int32) &&& 31).toUInt32).toInt32))])) _
          rw [← hv14]
          show Steps p.tables e below (T107.setTop (mkF m 60 #[.val (.int v10), .val (.int v13)] [(.int v14)])) _
          refine XS.istoreN X107.here hx rfl (hb hby d3_60) rfl (l' := #[.val (.int v14), .val (.int v13)]) rfl ?_
          exact kt
        refine own_arm hgo109 ?_
        exact own_armEnd X107 N107 e107 (by rw [hv15.trans (if_neg hc51_12), hv16.trans (if_neg hc51_12)]))
    obtain ⟨v18, hv18⟩ : ∃ z : Int32, z = (v16 + (-2 : Int32)) := ⟨_, rfl⟩
    obtain ⟨v19, hv19⟩ : ∃ z : Int32, z = ((v15.toUInt32 >>> ((2 : Int32) &&& 31).toUInt32).toInt32) := ⟨_, rfl⟩
    obtain ⟨v20, hv20⟩ : ∃ z : Int32, z = (if v15 < (4 : Int32) then v15 else v19) := ⟨_, rfl⟩
    obtain ⟨v21, hv21⟩ : ∃ z : Int32, z = (if v15 < (4 : Int32) then v16 else v18) := ⟨_, rfl⟩
    obtain ⟨T113, lc113, X113, N113, e113, st113⟩ := own_mrg (n0 := n0) (h := h0) (g := (mkF m 63 #[.val (.int v15), .val (.int v16)] [(.int (4 : Int32)), (.int v15)])) (g' := (mkF m 73 #[.val (.int v20), .val (.int v21)] [])) X110 (by
      by_cases hc63_17 : v15 < (4 : Int32)
      · have hgo111 : ∀ t, Steps p.tables e below (T110.setTop (mkF m 73 #[.val (.int v15), .val (.int v16)] [])) t → Steps p.tables e below (T110.setTop (mkF m 63 #[.val (.int v15), .val (.int v16)] [(.int (4 : Int32)), (.int v15)])) t := by
          intro t kt
          show Steps p.tables e below (T110.setTop (mkF m 63 #[.val (.int v15), .val (.int v16)] [(.int (4 : Int32)), (.int v15)])) _
          refine XS.icmpYes X110.here hx rfl (pc0 := 63) (pc' := 73) rfl (hb hby d3_63) rfl (tlt hc63_17).1 (by decide) (by decide) ?_
          exact kt
        refine own_arm hgo111 ?_
        exact own_armEnd X110 N110 e110 (by rw [hv20.trans (if_pos hc63_17), hv21.trans (if_pos hc63_17)])
      · have hgo112 : ∀ t, Steps p.tables e below (T110.setTop (mkF m 73 #[.val (.int v19), .val (.int v18)] [])) t → Steps p.tables e below (T110.setTop (mkF m 63 #[.val (.int v15), .val (.int v16)] [(.int (4 : Int32)), (.int v15)])) t := by
          intro t kt
          show Steps p.tables e below (T110.setTop (mkF m 63 #[.val (.int v15), .val (.int v16)] [(.int (4 : Int32)), (.int v15)])) _
          refine XS.icmpNo X110.here hx rfl (hb hby d3_63) rfl (flt hc63_17).1 ?_
          show Steps p.tables e below (T110.setTop (mkF m 66 #[.val (.int v15), .val (.int v16)] [])) _
          refine XS.iinc X110.here hx rfl (hb hby d3_66) rfl (l' := #[.val (.int v15), .val (.int (v16 + (-2 : Int32)))]) rfl ?_
          rw [← hv18]
          show Steps p.tables e below (T110.setTop (mkF m 69 #[.val (.int v15), .val (.int v18)] [])) _
          refine XS.iloadN X110.here hx rfl (hb hby d3_69) rfl ?_
          show Steps p.tables e below (T110.setTop (mkF m 70 #[.val (.int v15), .val (.int v18)] [(.int v15)])) _
          refine XS.iconst X110.here hx rfl (hb hby d3_70) ?_
          show Steps p.tables e below (T110.setTop (mkF m 71 #[.val (.int v15), .val (.int v18)] [(.int (2 : Int32)), (.int v15)])) _
          refine XS.iushr X110.here hx rfl (hb hby d3_71) rfl ?_
          show Steps p.tables e below (T110.setTop (mkF m 72 #[.val (.int v15), .val (.int v18)] [(.int ((v15.toUInt32 >>> ((2 : Int32) &&& 31).toUInt32).toInt32))])) _
          rw [← hv19]
          show Steps p.tables e below (T110.setTop (mkF m 72 #[.val (.int v15), .val (.int v18)] [(.int v19)])) _
          refine XS.istoreN X110.here hx rfl (hb hby d3_72) rfl (l' := #[.val (.int v19), .val (.int v18)]) rfl ?_
          exact kt
        refine own_arm hgo112 ?_
        exact own_armEnd X110 N110 e110 (by rw [hv20.trans (if_neg hc63_17), hv21.trans (if_neg hc63_17)]))
    obtain ⟨v22, hv22⟩ : ∃ z : Int32, z = (v21 - ((v20.toUInt32 >>> ((1 : Int32) &&& 31).toUInt32).toInt32)) := ⟨_, rfl⟩
    have hgo114 : ∀ t, Steps p.tables e below (T113.setTop (mkF m 78 #[.val (.int v20), .val (.int v21)] [(.int v22)])) t → Steps p.tables e below (s₁.setTop (mkF m 1 #[.val (.int p0), .unset] [(.int p0)])) t := by
      intro t kt
      show Steps p.tables e below (s₁.setTop (mkF m 1 #[.val (.int p0), .unset] [(.int p0)])) _
      refine XS.ifYes X0.here hx rfl (pc0 := 1) (pc' := 15) rfl (hb hby d3_1) rfl ((if0 _ _).trans (tlt hc1_1).2.2.1) (by decide) (by decide) ?_
      show Steps p.tables e below (s₁.setTop (mkF m 15 #[.val (.int p0), .unset] [])) _
      refine XS.bipush X0.here hx rfl (hb hby d3_15) ?_
      show Steps p.tables e below (s₁.setTop (mkF m 17 #[.val (.int p0), .unset] [(.int (31 : Int32))])) _
      refine XS.istoreN X0.here hx rfl (hb hby d3_17) rfl (l' := #[.val (.int p0), .val (.int (31 : Int32))]) rfl ?_
      show Steps p.tables e below (s₁.setTop (mkF m 18 #[.val (.int p0), .val (.int (31 : Int32))] [])) _
      refine XS.iloadN X0.here hx rfl (hb hby d3_18) rfl ?_
      show Steps p.tables e below (s₁.setTop (mkF m 19 #[.val (.int p0), .val (.int (31 : Int32))] [(.int p0)])) _
      refine X0.ldcwInt hx hown (mvT hZ (hw _ (List.mem_of_getElem? (i := 17) rfl))) (g := (mkF m 19 #[.val (.int p0), .val (.int (31 : Int32))] [(.int p0)])) rfl (hb hby d3_19) _ ?_
      show Steps p.tables e below (s₁.setTop (mkF m 22 #[.val (.int p0), .val (.int (31 : Int32))] [(.int (65536 : Int32)), (.int p0)])) _
      refine st104 _ ?_
      show Steps p.tables e below (T104.setTop (mkF m 33 #[.val (.int v5), .val (.int v6)] [])) _
      refine XS.iloadN X104.here hx rfl (hb hby d3_33) rfl ?_
      show Steps p.tables e below (T104.setTop (mkF m 34 #[.val (.int v5), .val (.int v6)] [(.int v5)])) _
      refine XS.sipush X104.here hx rfl (hb hby d3_34) ?_
      show Steps p.tables e below (T104.setTop (mkF m 37 #[.val (.int v5), .val (.int v6)] [(.int (256 : Int32)), (.int v5)])) _
      refine st107 _ ?_
      show Steps p.tables e below (T107.setTop (mkF m 48 #[.val (.int v10), .val (.int v11)] [])) _
      refine XS.iloadN X107.here hx rfl (hb hby d3_48) rfl ?_
      show Steps p.tables e below (T107.setTop (mkF m 49 #[.val (.int v10), .val (.int v11)] [(.int v10)])) _
      refine XS.bipush X107.here hx rfl (hb hby d3_49) ?_
      show Steps p.tables e below (T107.setTop (mkF m 51 #[.val (.int v10), .val (.int v11)] [(.int (16 : Int32)), (.int v10)])) _
      refine st110 _ ?_
      show Steps p.tables e below (T110.setTop (mkF m 61 #[.val (.int v15), .val (.int v16)] [])) _
      refine XS.iloadN X110.here hx rfl (hb hby d3_61) rfl ?_
      show Steps p.tables e below (T110.setTop (mkF m 62 #[.val (.int v15), .val (.int v16)] [(.int v15)])) _
      refine XS.iconst X110.here hx rfl (hb hby d3_62) ?_
      show Steps p.tables e below (T110.setTop (mkF m 63 #[.val (.int v15), .val (.int v16)] [(.int (4 : Int32)), (.int v15)])) _
      refine st113 _ ?_
      show Steps p.tables e below (T113.setTop (mkF m 73 #[.val (.int v20), .val (.int v21)] [])) _
      refine XS.iloadN X113.here hx rfl (hb hby d3_73) rfl ?_
      show Steps p.tables e below (T113.setTop (mkF m 74 #[.val (.int v20), .val (.int v21)] [(.int v21)])) _
      refine XS.iloadN X113.here hx rfl (hb hby d3_74) rfl ?_
      show Steps p.tables e below (T113.setTop (mkF m 75 #[.val (.int v20), .val (.int v21)] [(.int v20), (.int v21)])) _
      refine XS.iconst X113.here hx rfl (hb hby d3_75) ?_
      show Steps p.tables e below (T113.setTop (mkF m 76 #[.val (.int v20), .val (.int v21)] [(.int (1 : Int32)), (.int v20), (.int v21)])) _
      refine XS.iushr X113.here hx rfl (hb hby d3_76) rfl ?_
      show Steps p.tables e below (T113.setTop (mkF m 77 #[.val (.int v20), .val (.int v21)] [(.int ((v20.toUInt32 >>> ((1 : Int32) &&& 31).toUInt32).toInt32)), (.int v21)])) _
      refine XS.isub X113.here hx rfl (hb hby d3_77) rfl ?_
      rw [← hv22]
      exact kt
    refine own_go hgo114 ?_
    exact own_retI X113 hx Bd.returns Bd.notSynchronized (hb hby d3_78) (by decide) (by decide) (by rw [e113]; exact ⟨(by obtain rfl : v3 = (own_r3_v3 p0) := hv3; obtain rfl : v4 = (own_r3_v4 p0) := hv4; obtain rfl : v5 = (own_r3_v5 p0) := hv5; obtain rfl : v6 = (own_r3_v6 p0) := hv6; obtain rfl : v8 = (own_r3_v8 p0) := hv8; obtain rfl : v9 = (own_r3_v9 p0) := hv9; obtain rfl : v10 = (own_r3_v10 p0) := hv10; obtain rfl : v11 = (own_r3_v11 p0) := hv11; obtain rfl : v13 = (own_r3_v13 p0) := hv13; obtain rfl : v14 = (own_r3_v14 p0) := hv14; obtain rfl : v15 = (own_r3_v15 p0) := hv15; obtain rfl : v16 = (own_r3_v16 p0) := hv16; obtain rfl : v18 = (own_r3_v18 p0) := hv18; obtain rfl : v19 = (own_r3_v19 p0) := hv19; obtain rfl : v20 = (own_r3_v20 p0) := hv20; obtain rfl : v21 = (own_r3_v21 p0) := hv21; obtain rfl : v22 = (own_r3_v22 p0) := hv22; rw [own_r3, if_pos hc1_1]), N113, rfl⟩)
  · obtain ⟨v24, hv24⟩ : ∃ z : Int32, z = (if p0 = (0 : Int32) then (32 : Int32) else (0 : Int32)) := ⟨_, rfl⟩
    obtain ⟨T117, lc117, X117, N117, e117, st117⟩ := own_mrg (n0 := n0) (h := h0) (g := (mkF m 5 #[.val (.int p0), .unset] [(.int p0)])) (g' := (mkF m 14 #[.val (.int p0), .unset] [(.int v24)])) X0 (by
      by_cases hc5_23 : p0 = (0 : Int32)
      · have hgo115 : ∀ t, Steps p.tables e below (s₁.setTop (mkF m 14 #[.val (.int p0), .unset] [(.int (32 : Int32))])) t → Steps p.tables e below (s₁.setTop (mkF m 5 #[.val (.int p0), .unset] [(.int p0)])) t := by
          intro t kt
          show Steps p.tables e below (s₁.setTop (mkF m 5 #[.val (.int p0), .unset] [(.int p0)])) _
          refine XS.ifNo X0.here hx rfl (hb hby d3_5) rfl ((if0 _ _).trans (teq hc5_23).2) ?_
          show Steps p.tables e below (s₁.setTop (mkF m 8 #[.val (.int p0), .unset] [])) _
          refine XS.bipush X0.here hx rfl (hb hby d3_8) ?_
          show Steps p.tables e below (s₁.setTop (mkF m 10 #[.val (.int p0), .unset] [(.int (32 : Int32))])) _
          refine XS.goto X0.here hx rfl (pc0 := 10) (pc' := 14) rfl (hb hby d3_10) (by decide) (by decide) ?_
          exact kt
        refine own_arm hgo115 ?_
        exact own_armEnd X0 N0 e0 (by rw [hv24.trans (if_pos hc5_23)])
      · have hgo116 : ∀ t, Steps p.tables e below (s₁.setTop (mkF m 14 #[.val (.int p0), .unset] [(.int (0 : Int32))])) t → Steps p.tables e below (s₁.setTop (mkF m 5 #[.val (.int p0), .unset] [(.int p0)])) t := by
          intro t kt
          show Steps p.tables e below (s₁.setTop (mkF m 5 #[.val (.int p0), .unset] [(.int p0)])) _
          refine XS.ifYes X0.here hx rfl (pc0 := 5) (pc' := 13) rfl (hb hby d3_5) rfl ((if0 _ _).trans (feq hc5_23).2) (by decide) (by decide) ?_
          show Steps p.tables e below (s₁.setTop (mkF m 13 #[.val (.int p0), .unset] [])) _
          refine XS.iconst X0.here hx rfl (hb hby d3_13) ?_
          exact kt
        refine own_arm hgo116 ?_
        exact own_armEnd X0 N0 e0 (by rw [hv24.trans (if_neg hc5_23)]))
    have hgo118 : ∀ t, Steps p.tables e below (T117.setTop (mkF m 14 #[.val (.int p0), .unset] [(.int v24)])) t → Steps p.tables e below (s₁.setTop (mkF m 1 #[.val (.int p0), .unset] [(.int p0)])) t := by
      intro t kt
      show Steps p.tables e below (s₁.setTop (mkF m 1 #[.val (.int p0), .unset] [(.int p0)])) _
      refine XS.ifNo X0.here hx rfl (hb hby d3_1) rfl ((if0 _ _).trans (flt hc1_1).2.2.1) ?_
      show Steps p.tables e below (s₁.setTop (mkF m 4 #[.val (.int p0), .unset] [])) _
      refine XS.iloadN X0.here hx rfl (hb hby d3_4) rfl ?_
      show Steps p.tables e below (s₁.setTop (mkF m 5 #[.val (.int p0), .unset] [(.int p0)])) _
      refine st117 _ ?_
      exact kt
    refine own_go hgo118 ?_
    exact own_retI X117 hx Bd.returns Bd.notSynchronized (hb hby d3_14) (by decide) (by decide) (by rw [e117]; exact ⟨(by obtain rfl : v24 = (own_r3_v24 p0) := hv24; rw [own_r3, if_neg hc1_1]), N117, rfl⟩)
theorem d4_0 : decode jdk_29_method_65_code 0 = .ok (.iload_n 0, 1) := by decide +kernel
theorem d4_1 : decode jdk_29_method_65_code 1 = .ok (.iload_n 1, 1) := by decide +kernel
theorem d4_2 : decode jdk_29_method_65_code 2 = .ok (.if_icmp .lt 7, 3) := by decide +kernel
theorem d4_5 : decode jdk_29_method_65_code 5 = .ok (.iload_n 0, 1) := by decide +kernel
theorem d4_6 : decode jdk_29_method_65_code 6 = .ok (.goto 4, 3) := by decide +kernel
theorem d4_9 : decode jdk_29_method_65_code 9 = .ok (.iload_n 1, 1) := by decide +kernel
theorem d4_10 : decode jdk_29_method_65_code 10 = .ok (.ireturn, 1) := by decide +kernel
theorem ef_4 (m : MethodId) (p0 : Int32) (p1 : Int32) : entryFrame m #[(.int p0), (.int p1)] 2 = mkF m 0 #[.val (.int p0), .val (.int p1)] [] := by (first | (simp [entryFrame, mkF, argsToLocals, Value.category]; done) | rfl)
def own_r4 (p0 : Int32) (p1 : Int32) : Int32 := (if p0 < p1 then p1 else p0)
def Q4 (Z : State) (p0 : Int32) (p1 : Int32) (h0 : Heap) (n0 : Nat) (v : Option Value) (h : Heap) (L : List Loc) : Prop := v = some (.int (own_r4 p0 p1)) ∧ Fr n0 L ∧ h = h0
set_option maxRecDepth 65536 in
set_option maxHeartbeats 40000000 in
theorem rm4 (l : Launch) (Z : State) (a0 : Array Value) (hw : ∀ d ∈ tables_1, d.before a0 Z = true) (ws : List Jvm.Cond) (p0 : Int32) (p1 : Int32) (h0 : Heap) (n0 : Nat) (Z0 : n0 ≤ h0.size) :
    MetFree l (⟨"java/lang/Math", "max", "(II)I"⟩ : MethodName) (head1 (Jvm.Cond.code (⟨"java/lang/Math", "max", "(II)I"⟩ : MethodName) jdk_29_method_65_code 2 (some .int) :: ws) ({ frames := 0, cells := 0, slots := 0, locals := 0 } : Room)) (fun a U => a = #[(.int p0), (.int p1)] ∧ Z.Warmed39 U.vm ∧ U.heap = h0) (fun _ _ _ _ _ => True) (fun _ U o U' => ∃ v L, o = .returned v ∧ Q4 Z p0 p1 h0 n0 v U'.heap L ∧ FrameEnd U o U' L ({ frames := 0, cells := 0, slots := 0, locals := 0 } : Room).cells ({ frames := 0, cells := 0, slots := 0, locals := 0 } : Room).slots) := by
  refine MetFree.of_bodySF (Jvm.Free.JP.mathPlain rfl (by decide +kernel)) hisR ?_
  intro p e s m args below meth c s₁ Bd hml0 hP hK
  obtain ⟨rfl, hZ, hh⟩ := hP
  have hx := Bd.exec
  have hby := Bd.bytes
  have hml : c.maxLocals = 2 := hml0
  have hown : s.vm.findClass "java/lang/Math" = some m.cls := findClass_of_methodNamed Bd.named
  have hnm := (name_of_methodNamed Bd.named Bd.method).1
  have X0 : Stand p l e ({ frames := 0, cells := 0, slots := 0, locals := 0 } : Room) s m #[(.int p0), (.int p1)] below meth c s₁ [] 0 0 := Stand.of_body Bd
  have e0 : s₁.heap = h0 := by rw [← hh, Bd.state]; rfl
  have N0 := Fr.nil n0
  have K0 : Keep h0 h0 [] := Keep.refl h0 _
  show own_Go p e below s (Q4 Z p0 p1 h0 n0) ({ frames := 0, cells := 0, slots := 0, locals := 0 } : Room).cells ({ frames := 0, cells := 0, slots := 0, locals := 0 } : Room).slots (s₁.setTop (entryFrame m #[(.int p0), (.int p1)] 2))
  refine own_go (fun t k => castTop (ef_4 m p0 p1) k) ?_
  obtain ⟨v2, hv2⟩ : ∃ z : Int32, z = (if p0 < p1 then p1 else p0) := ⟨_, rfl⟩
  obtain ⟨T103, lc103, X103, N103, e103, st103⟩ := own_mrg (n0 := n0) (h := h0) (g := (mkF m 2 #[.val (.int p0), .val (.int p1)] [(.int p1), (.int p0)])) (g' := (mkF m 10 #[.val (.int p0), .val (.int p1)] [(.int v2)])) X0 (by
    by_cases hc2_1 : p0 < p1
    · have hgo101 : ∀ t, Steps p.tables e below (s₁.setTop (mkF m 10 #[.val (.int p0), .val (.int p1)] [(.int p1)])) t → Steps p.tables e below (s₁.setTop (mkF m 2 #[.val (.int p0), .val (.int p1)] [(.int p1), (.int p0)])) t := by
        intro t kt
        show Steps p.tables e below (s₁.setTop (mkF m 2 #[.val (.int p0), .val (.int p1)] [(.int p1), (.int p0)])) _
        refine XS.icmpYes X0.here hx rfl (pc0 := 2) (pc' := 9) rfl (hb hby d4_2) rfl (tlt hc2_1).1 (by decide) (by decide) ?_
        show Steps p.tables e below (s₁.setTop (mkF m 9 #[.val (.int p0), .val (.int p1)] [])) _
        refine XS.iloadN X0.here hx rfl (hb hby d4_9) rfl ?_
        exact kt
      refine own_arm hgo101 ?_
      exact own_armEnd X0 N0 e0 (by rw [hv2.trans (if_pos hc2_1)])
    · have hgo102 : ∀ t, Steps p.tables e below (s₁.setTop (mkF m 10 #[.val (.int p0), .val (.int p1)] [(.int p0)])) t → Steps p.tables e below (s₁.setTop (mkF m 2 #[.val (.int p0), .val (.int p1)] [(.int p1), (.int p0)])) t := by
        intro t kt
        show Steps p.tables e below (s₁.setTop (mkF m 2 #[.val (.int p0), .val (.int p1)] [(.int p1), (.int p0)])) _
        refine XS.icmpNo X0.here hx rfl (hb hby d4_2) rfl (flt hc2_1).1 ?_
        show Steps p.tables e below (s₁.setTop (mkF m 5 #[.val (.int p0), .val (.int p1)] [])) _
        refine XS.iloadN X0.here hx rfl (hb hby d4_5) rfl ?_
        show Steps p.tables e below (s₁.setTop (mkF m 6 #[.val (.int p0), .val (.int p1)] [(.int p0)])) _
        refine XS.goto X0.here hx rfl (pc0 := 6) (pc' := 10) rfl (hb hby d4_6) (by decide) (by decide) ?_
        exact kt
      refine own_arm hgo102 ?_
      exact own_armEnd X0 N0 e0 (by rw [hv2.trans (if_neg hc2_1)]))
  have hgo104 : ∀ t, Steps p.tables e below (T103.setTop (mkF m 10 #[.val (.int p0), .val (.int p1)] [(.int v2)])) t → Steps p.tables e below (s₁.setTop (mkF m 0 #[.val (.int p0), .val (.int p1)] [])) t := by
    intro t kt
    show Steps p.tables e below (s₁.setTop (mkF m 0 #[.val (.int p0), .val (.int p1)] [])) _
    refine XS.iloadN X0.here hx rfl (hb hby d4_0) rfl ?_
    show Steps p.tables e below (s₁.setTop (mkF m 1 #[.val (.int p0), .val (.int p1)] [(.int p0)])) _
    refine XS.iloadN X0.here hx rfl (hb hby d4_1) rfl ?_
    show Steps p.tables e below (s₁.setTop (mkF m 2 #[.val (.int p0), .val (.int p1)] [(.int p1), (.int p0)])) _
    refine st103 _ ?_
    exact kt
  refine own_go hgo104 ?_
  exact own_retI X103 hx Bd.returns Bd.notSynchronized (hb hby d4_10) (by decide) (by decide) (by rw [e103]; exact ⟨(by subst hv2; rw [own_r4]), N103, rfl⟩)
theorem d5_0 : decode jdk_29_method_69_code 0 = .ok (.iload_n 0, 1) := by decide +kernel
theorem d5_1 : decode jdk_29_method_69_code 1 = .ok (.iload_n 1, 1) := by decide +kernel
theorem d5_2 : decode jdk_29_method_69_code 2 = .ok (.if_icmp .gt 7, 3) := by decide +kernel
theorem d5_5 : decode jdk_29_method_69_code 5 = .ok (.iload_n 0, 1) := by decide +kernel
theorem d5_6 : decode jdk_29_method_69_code 6 = .ok (.goto 4, 3) := by decide +kernel
theorem d5_9 : decode jdk_29_method_69_code 9 = .ok (.iload_n 1, 1) := by decide +kernel
theorem d5_10 : decode jdk_29_method_69_code 10 = .ok (.ireturn, 1) := by decide +kernel
theorem ef_5 (m : MethodId) (p0 : Int32) (p1 : Int32) : entryFrame m #[(.int p0), (.int p1)] 2 = mkF m 0 #[.val (.int p0), .val (.int p1)] [] := by (first | (simp [entryFrame, mkF, argsToLocals, Value.category]; done) | rfl)
def own_r5 (p0 : Int32) (p1 : Int32) : Int32 := (if p1 < p0 then p1 else p0)
def Q5 (Z : State) (p0 : Int32) (p1 : Int32) (h0 : Heap) (n0 : Nat) (v : Option Value) (h : Heap) (L : List Loc) : Prop := v = some (.int (own_r5 p0 p1)) ∧ Fr n0 L ∧ h = h0
set_option maxRecDepth 65536 in
set_option maxHeartbeats 40000000 in
theorem rm5 (l : Launch) (Z : State) (a0 : Array Value) (hw : ∀ d ∈ tables_1, d.before a0 Z = true) (ws : List Jvm.Cond) (p0 : Int32) (p1 : Int32) (h0 : Heap) (n0 : Nat) (Z0 : n0 ≤ h0.size) :
    MetFree l (⟨"java/lang/Math", "min", "(II)I"⟩ : MethodName) (head1 (Jvm.Cond.code (⟨"java/lang/Math", "min", "(II)I"⟩ : MethodName) jdk_29_method_69_code 2 (some .int) :: ws) ({ frames := 0, cells := 0, slots := 0, locals := 0 } : Room)) (fun a U => a = #[(.int p0), (.int p1)] ∧ Z.Warmed39 U.vm ∧ U.heap = h0) (fun _ _ _ _ _ => True) (fun _ U o U' => ∃ v L, o = .returned v ∧ Q5 Z p0 p1 h0 n0 v U'.heap L ∧ FrameEnd U o U' L ({ frames := 0, cells := 0, slots := 0, locals := 0 } : Room).cells ({ frames := 0, cells := 0, slots := 0, locals := 0 } : Room).slots) := by
  refine MetFree.of_bodySF (Jvm.Free.JP.mathPlain rfl (by decide +kernel)) hisR ?_
  intro p e s m args below meth c s₁ Bd hml0 hP hK
  obtain ⟨rfl, hZ, hh⟩ := hP
  have hx := Bd.exec
  have hby := Bd.bytes
  have hml : c.maxLocals = 2 := hml0
  have hown : s.vm.findClass "java/lang/Math" = some m.cls := findClass_of_methodNamed Bd.named
  have hnm := (name_of_methodNamed Bd.named Bd.method).1
  have X0 : Stand p l e ({ frames := 0, cells := 0, slots := 0, locals := 0 } : Room) s m #[(.int p0), (.int p1)] below meth c s₁ [] 0 0 := Stand.of_body Bd
  have e0 : s₁.heap = h0 := by rw [← hh, Bd.state]; rfl
  have N0 := Fr.nil n0
  have K0 : Keep h0 h0 [] := Keep.refl h0 _
  show own_Go p e below s (Q5 Z p0 p1 h0 n0) ({ frames := 0, cells := 0, slots := 0, locals := 0 } : Room).cells ({ frames := 0, cells := 0, slots := 0, locals := 0 } : Room).slots (s₁.setTop (entryFrame m #[(.int p0), (.int p1)] 2))
  refine own_go (fun t k => castTop (ef_5 m p0 p1) k) ?_
  obtain ⟨v2, hv2⟩ : ∃ z : Int32, z = (if p1 < p0 then p1 else p0) := ⟨_, rfl⟩
  obtain ⟨T103, lc103, X103, N103, e103, st103⟩ := own_mrg (n0 := n0) (h := h0) (g := (mkF m 2 #[.val (.int p0), .val (.int p1)] [(.int p1), (.int p0)])) (g' := (mkF m 10 #[.val (.int p0), .val (.int p1)] [(.int v2)])) X0 (by
    by_cases hc2_1 : p1 < p0
    · have hgo101 : ∀ t, Steps p.tables e below (s₁.setTop (mkF m 10 #[.val (.int p0), .val (.int p1)] [(.int p1)])) t → Steps p.tables e below (s₁.setTop (mkF m 2 #[.val (.int p0), .val (.int p1)] [(.int p1), (.int p0)])) t := by
        intro t kt
        show Steps p.tables e below (s₁.setTop (mkF m 2 #[.val (.int p0), .val (.int p1)] [(.int p1), (.int p0)])) _
        refine XS.icmpYes X0.here hx rfl (pc0 := 2) (pc' := 9) rfl (hb hby d5_2) rfl (tlt hc2_1).2.2.1 (by decide) (by decide) ?_
        show Steps p.tables e below (s₁.setTop (mkF m 9 #[.val (.int p0), .val (.int p1)] [])) _
        refine XS.iloadN X0.here hx rfl (hb hby d5_9) rfl ?_
        exact kt
      refine own_arm hgo101 ?_
      exact own_armEnd X0 N0 e0 (by rw [hv2.trans (if_pos hc2_1)])
    · have hgo102 : ∀ t, Steps p.tables e below (s₁.setTop (mkF m 10 #[.val (.int p0), .val (.int p1)] [(.int p0)])) t → Steps p.tables e below (s₁.setTop (mkF m 2 #[.val (.int p0), .val (.int p1)] [(.int p1), (.int p0)])) t := by
        intro t kt
        show Steps p.tables e below (s₁.setTop (mkF m 2 #[.val (.int p0), .val (.int p1)] [(.int p1), (.int p0)])) _
        refine XS.icmpNo X0.here hx rfl (hb hby d5_2) rfl (flt hc2_1).2.2.1 ?_
        show Steps p.tables e below (s₁.setTop (mkF m 5 #[.val (.int p0), .val (.int p1)] [])) _
        refine XS.iloadN X0.here hx rfl (hb hby d5_5) rfl ?_
        show Steps p.tables e below (s₁.setTop (mkF m 6 #[.val (.int p0), .val (.int p1)] [(.int p0)])) _
        refine XS.goto X0.here hx rfl (pc0 := 6) (pc' := 10) rfl (hb hby d5_6) (by decide) (by decide) ?_
        exact kt
      refine own_arm hgo102 ?_
      exact own_armEnd X0 N0 e0 (by rw [hv2.trans (if_neg hc2_1)]))
  have hgo104 : ∀ t, Steps p.tables e below (T103.setTop (mkF m 10 #[.val (.int p0), .val (.int p1)] [(.int v2)])) t → Steps p.tables e below (s₁.setTop (mkF m 0 #[.val (.int p0), .val (.int p1)] [])) t := by
    intro t kt
    show Steps p.tables e below (s₁.setTop (mkF m 0 #[.val (.int p0), .val (.int p1)] [])) _
    refine XS.iloadN X0.here hx rfl (hb hby d5_0) rfl ?_
    show Steps p.tables e below (s₁.setTop (mkF m 1 #[.val (.int p0), .val (.int p1)] [(.int p0)])) _
    refine XS.iloadN X0.here hx rfl (hb hby d5_1) rfl ?_
    show Steps p.tables e below (s₁.setTop (mkF m 2 #[.val (.int p0), .val (.int p1)] [(.int p1), (.int p0)])) _
    refine st103 _ ?_
    exact kt
  refine own_go hgo104 ?_
  exact own_retI X103 hx Bd.returns Bd.notSynchronized (hb hby d5_10) (by decide) (by decide) (by rw [e103]; exact ⟨(by subst hv2; rw [own_r5]), N103, rfl⟩)
theorem d8_0 : decode jdk_29_method_70_code 0 = .ok (.lload_n 0, 1) := by decide +kernel
theorem d8_1 : decode jdk_29_method_70_code 1 = .ok (.lload_n 2, 1) := by decide +kernel
theorem d8_2 : decode jdk_29_method_70_code 2 = .ok (.lcmp, 1) := by decide +kernel
theorem d8_3 : decode jdk_29_method_70_code 3 = .ok (.ifCond .gt 7, 3) := by decide +kernel
theorem d8_6 : decode jdk_29_method_70_code 6 = .ok (.lload_n 0, 1) := by decide +kernel
theorem d8_7 : decode jdk_29_method_70_code 7 = .ok (.goto 4, 3) := by decide +kernel
theorem d8_10 : decode jdk_29_method_70_code 10 = .ok (.lload_n 2, 1) := by decide +kernel
theorem d8_11 : decode jdk_29_method_70_code 11 = .ok (.lreturn, 1) := by decide +kernel
theorem ef_8 (m : MethodId) (q0 : Int64) (q1 : Int64) : entryFrame m #[(.long q0), (.long q1)] 4 = mkF m 0 #[.val (.long q0), .second, .val (.long q1), .second] [] := by (first | (simp [entryFrame, mkF, argsToLocals, Value.category]; done) | rfl)
def own_r8 (q0 : Int64) (q1 : Int64) : Int64 := (if q1 < q0 then q1 else q0)
def Q8 (Z : State) (q0 : Int64) (q1 : Int64) (h0 : Heap) (n0 : Nat) (v : Option Value) (h : Heap) (L : List Loc) : Prop := v = some (.long (own_r8 q0 q1)) ∧ Fr n0 L ∧ h = h0
set_option maxRecDepth 65536 in
set_option maxHeartbeats 40000000 in
theorem rm8 (l : Launch) (Z : State) (a0 : Array Value) (hw : ∀ d ∈ tables_1, d.before a0 Z = true) (ws : List Jvm.Cond) (q0 : Int64) (q1 : Int64) (h0 : Heap) (n0 : Nat) (Z0 : n0 ≤ h0.size) :
    MetFree l (⟨"java/lang/Math", "min", "(JJ)J"⟩ : MethodName) (head1 (Jvm.Cond.code (⟨"java/lang/Math", "min", "(JJ)J"⟩ : MethodName) jdk_29_method_70_code 4 (some .long) :: ws) ({ frames := 0, cells := 0, slots := 0, locals := 0 } : Room)) (fun a U => a = #[(.long q0), (.long q1)] ∧ Z.Warmed39 U.vm ∧ U.heap = h0) (fun _ _ _ _ _ => True) (fun _ U o U' => ∃ v L, o = .returned v ∧ Q8 Z q0 q1 h0 n0 v U'.heap L ∧ FrameEnd U o U' L ({ frames := 0, cells := 0, slots := 0, locals := 0 } : Room).cells ({ frames := 0, cells := 0, slots := 0, locals := 0 } : Room).slots) := by
  refine MetFree.of_bodySF (Jvm.Free.JP.mathPlain rfl (by decide +kernel)) hisR ?_
  intro p e s m args below meth c s₁ Bd hml0 hP hK
  obtain ⟨rfl, hZ, hh⟩ := hP
  have hx := Bd.exec
  have hby := Bd.bytes
  have hml : c.maxLocals = 4 := hml0
  have hown : s.vm.findClass "java/lang/Math" = some m.cls := findClass_of_methodNamed Bd.named
  have hnm := (name_of_methodNamed Bd.named Bd.method).1
  have X0 : Stand p l e ({ frames := 0, cells := 0, slots := 0, locals := 0 } : Room) s m #[(.long q0), (.long q1)] below meth c s₁ [] 0 0 := Stand.of_body Bd
  have e0 : s₁.heap = h0 := by rw [← hh, Bd.state]; rfl
  have N0 := Fr.nil n0
  have K0 : Keep h0 h0 [] := Keep.refl h0 _
  show own_Go p e below s (Q8 Z q0 q1 h0 n0) ({ frames := 0, cells := 0, slots := 0, locals := 0 } : Room).cells ({ frames := 0, cells := 0, slots := 0, locals := 0 } : Room).slots (s₁.setTop (entryFrame m #[(.long q0), (.long q1)] 4))
  refine own_go (fun t k => castTop (ef_8 m q0 q1) k) ?_
  obtain ⟨v2, hv2⟩ : ∃ z : Int64, z = (if q1 < q0 then q1 else q0) := ⟨_, rfl⟩
  obtain ⟨T103, lc103, X103, N103, e103, st103⟩ := own_mrg (n0 := n0) (h := h0) (g := (mkF m 3 #[.val (.long q0), .second, .val (.long q1), .second] [(.int (lcmpW q0 q1))])) (g' := (mkF m 11 #[.val (.long q0), .second, .val (.long q1), .second] [(.long v2)])) X0 (by
    by_cases hc3_1 : q1 < q0
    · have hgo101 : ∀ t, Steps p.tables e below (s₁.setTop (mkF m 11 #[.val (.long q0), .second, .val (.long q1), .second] [(.long q1)])) t → Steps p.tables e below (s₁.setTop (mkF m 3 #[.val (.long q0), .second, .val (.long q1), .second] [(.int (lcmpW q0 q1))])) t := by
        intro t kt
        show Steps p.tables e below (s₁.setTop (mkF m 3 #[.val (.long q0), .second, .val (.long q1), .second] [(.int (lcmpW q0 q1))])) _
        refine XS.ifYes X0.here hx rfl (pc0 := 3) (pc' := 10) rfl (hb hby d8_3) rfl ((if0 _ _).trans (tlt (own_lc_gt hc3_1)).2.2.1) (by decide) (by decide) ?_
        show Steps p.tables e below (s₁.setTop (mkF m 10 #[.val (.long q0), .second, .val (.long q1), .second] [])) _
        refine XS.lloadN X0.here hx rfl (hb hby d8_10) rfl ?_
        exact kt
      refine own_arm hgo101 ?_
      exact own_armEnd X0 N0 e0 (by rw [hv2.trans (if_pos hc3_1)])
    · have hgo102 : ∀ t, Steps p.tables e below (s₁.setTop (mkF m 11 #[.val (.long q0), .second, .val (.long q1), .second] [(.long q0)])) t → Steps p.tables e below (s₁.setTop (mkF m 3 #[.val (.long q0), .second, .val (.long q1), .second] [(.int (lcmpW q0 q1))])) t := by
        intro t kt
        show Steps p.tables e below (s₁.setTop (mkF m 3 #[.val (.long q0), .second, .val (.long q1), .second] [(.int (lcmpW q0 q1))])) _
        refine XS.ifNo X0.here hx rfl (hb hby d8_3) rfl ((if0 _ _).trans (flt (own_lc_ngt hc3_1)).2.2.1) ?_
        show Steps p.tables e below (s₁.setTop (mkF m 6 #[.val (.long q0), .second, .val (.long q1), .second] [])) _
        refine XS.lloadN X0.here hx rfl (hb hby d8_6) rfl ?_
        show Steps p.tables e below (s₁.setTop (mkF m 7 #[.val (.long q0), .second, .val (.long q1), .second] [(.long q0)])) _
        refine XS.goto X0.here hx rfl (pc0 := 7) (pc' := 11) rfl (hb hby d8_7) (by decide) (by decide) ?_
        exact kt
      refine own_arm hgo102 ?_
      exact own_armEnd X0 N0 e0 (by rw [hv2.trans (if_neg hc3_1)]))
  have hgo104 : ∀ t, Steps p.tables e below (T103.setTop (mkF m 11 #[.val (.long q0), .second, .val (.long q1), .second] [(.long v2)])) t → Steps p.tables e below (s₁.setTop (mkF m 0 #[.val (.long q0), .second, .val (.long q1), .second] [])) t := by
    intro t kt
    show Steps p.tables e below (s₁.setTop (mkF m 0 #[.val (.long q0), .second, .val (.long q1), .second] [])) _
    refine XS.lloadN X0.here hx rfl (hb hby d8_0) rfl ?_
    show Steps p.tables e below (s₁.setTop (mkF m 1 #[.val (.long q0), .second, .val (.long q1), .second] [(.long q0)])) _
    refine XS.lloadN X0.here hx rfl (hb hby d8_1) rfl ?_
    show Steps p.tables e below (s₁.setTop (mkF m 2 #[.val (.long q0), .second, .val (.long q1), .second] [(.long q1), (.long q0)])) _
    refine XS.lcmp X0.here hx rfl (hb hby d8_2) rfl ?_
    show Steps p.tables e below (s₁.setTop (mkF m 3 #[.val (.long q0), .second, .val (.long q1), .second] [(.int (lcmpW q0 q1))])) _
    refine st103 _ ?_
    exact kt
  refine own_go hgo104 ?_
  exact own_retJ X103 hx Bd.returns Bd.notSynchronized (hb hby d8_11) (by decide) (by decide) (by rw [e103]; exact ⟨(by subst hv2; rw [own_r8]), N103, rfl⟩)
theorem pd1 : parseMethodDescriptor "(I)I" = some ⟨[.int], some .int⟩ := by decide +kernel
theorem pd2 : parseMethodDescriptor "(II)I" = some ⟨[.int, .int], some .int⟩ := by decide +kernel
theorem d1_0 : decode prog_2_method_2_code 0 = .ok (.aload_n 0, 1) := by decide +kernel
theorem d1_1 : decode prog_2_method_2_code 1 = .ok (.invokespecial 9, 3) := by decide +kernel
theorem d1_4 : decode prog_2_method_2_code 4 = .ok (.aload_n 0, 1) := by decide +kernel
theorem d1_5 : decode prog_2_method_2_code 5 = .ok (.iload_n 1, 1) := by decide +kernel
theorem d1_6 : decode prog_2_method_2_code 6 = .ok (.putfield 14, 3) := by decide +kernel
theorem d1_9 : decode prog_2_method_2_code 9 = .ok (.aload_n 0, 1) := by decide +kernel
theorem d1_10 : decode prog_2_method_2_code 10 = .ok (.iconst 1, 1) := by decide +kernel
theorem d1_11 : decode prog_2_method_2_code 11 = .ok (.bipush 32, 2) := by decide +kernel
theorem d1_13 : decode prog_2_method_2_code 13 = .ok (.iload_n 2, 1) := by decide +kernel
theorem d1_14 : decode prog_2_method_2_code 14 = .ok (.iconst 1, 1) := by decide +kernel
theorem d1_15 : decode prog_2_method_2_code 15 = .ok (.isub, 1) := by decide +kernel
theorem d1_16 : decode prog_2_method_2_code 16 = .ok (.invokestatic 18, 3) := by decide +kernel
theorem d1_19 : decode prog_2_method_2_code 19 = .ok (.isub, 1) := by decide +kernel
theorem d1_20 : decode prog_2_method_2_code 20 = .ok (.invokestatic 22, 3) := by decide +kernel
theorem d1_23 : decode prog_2_method_2_code 23 = .ok (.putfield 28, 3) := by decide +kernel
theorem d1_26 : decode prog_2_method_2_code 26 = .ok (.aload_n 0, 1) := by decide +kernel
theorem d1_27 : decode prog_2_method_2_code 27 = .ok (.bipush 64, 2) := by decide +kernel
theorem d1_29 : decode prog_2_method_2_code 29 = .ok (.aload_n 0, 1) := by decide +kernel
theorem d1_30 : decode prog_2_method_2_code 30 = .ok (.getfield 28, 3) := by decide +kernel
theorem d1_33 : decode prog_2_method_2_code 33 = .ok (.idiv, 1) := by decide +kernel
theorem d1_34 : decode prog_2_method_2_code 34 = .ok (.putfield 31, 3) := by decide +kernel
theorem d1_37 : decode prog_2_method_2_code 37 = .ok (.aload_n 0, 1) := by decide +kernel
theorem d1_38 : decode prog_2_method_2_code 38 = .ok (.iload_n 1, 1) := by decide +kernel
theorem d1_39 : decode prog_2_method_2_code 39 = .ok (.aload_n 0, 1) := by decide +kernel
theorem d1_40 : decode prog_2_method_2_code 40 = .ok (.getfield 31, 3) := by decide +kernel
theorem d1_43 : decode prog_2_method_2_code 43 = .ok (.iadd, 1) := by decide +kernel
theorem d1_44 : decode prog_2_method_2_code 44 = .ok (.iconst 1, 1) := by decide +kernel
theorem d1_45 : decode prog_2_method_2_code 45 = .ok (.isub, 1) := by decide +kernel
theorem d1_46 : decode prog_2_method_2_code 46 = .ok (.aload_n 0, 1) := by decide +kernel
theorem d1_47 : decode prog_2_method_2_code 47 = .ok (.getfield 31, 3) := by decide +kernel
theorem d1_50 : decode prog_2_method_2_code 50 = .ok (.idiv, 1) := by decide +kernel
theorem d1_51 : decode prog_2_method_2_code 51 = .ok (.putfield 34, 3) := by decide +kernel
theorem d1_54 : decode prog_2_method_2_code 54 = .ok (.aload_n 0, 1) := by decide +kernel
theorem d1_55 : decode prog_2_method_2_code 55 = .ok (.lconst 1, 1) := by decide +kernel
theorem d1_56 : decode prog_2_method_2_code 56 = .ok (.aload_n 0, 1) := by decide +kernel
theorem d1_57 : decode prog_2_method_2_code 57 = .ok (.getfield 28, 3) := by decide +kernel
theorem d1_60 : decode prog_2_method_2_code 60 = .ok (.lshl, 1) := by decide +kernel
theorem d1_61 : decode prog_2_method_2_code 61 = .ok (.lconst 1, 1) := by decide +kernel
theorem d1_62 : decode prog_2_method_2_code 62 = .ok (.lsub, 1) := by decide +kernel
theorem d1_63 : decode prog_2_method_2_code 63 = .ok (.putfield 37, 3) := by decide +kernel
theorem d1_66 : decode prog_2_method_2_code 66 = .ok (.aload_n 0, 1) := by decide +kernel
theorem d1_67 : decode prog_2_method_2_code 67 = .ok (.ldc 41, 2) := by decide +kernel
theorem d1_69 : decode prog_2_method_2_code 69 = .ok (.ldc 42, 2) := by decide +kernel
theorem d1_71 : decode prog_2_method_2_code 71 = .ok (.aload_n 0, 1) := by decide +kernel
theorem d1_72 : decode prog_2_method_2_code 72 = .ok (.getfield 34, 3) := by decide +kernel
theorem d1_75 : decode prog_2_method_2_code 75 = .ok (.idiv, 1) := by decide +kernel
theorem d1_76 : decode prog_2_method_2_code 76 = .ok (.invokestatic 43, 3) := by decide +kernel
theorem d1_79 : decode prog_2_method_2_code 79 = .ok (.putfield 46, 3) := by decide +kernel
theorem d1_82 : decode prog_2_method_2_code 82 = .ok (.aload_n 0, 1) := by decide +kernel
theorem d1_83 : decode prog_2_method_2_code 83 = .ok (.bipush 16, 2) := by decide +kernel
theorem d1_85 : decode prog_2_method_2_code 85 = .ok (.aload_n 0, 1) := by decide +kernel
theorem d1_86 : decode prog_2_method_2_code 86 = .ok (.getfield 34, 3) := by decide +kernel
theorem d1_89 : decode prog_2_method_2_code 89 = .ok (.imul, 1) := by decide +kernel
theorem d1_90 : decode prog_2_method_2_code 90 = .ok (.newarray .long, 2) := by decide +kernel
theorem d1_92 : decode prog_2_method_2_code 92 = .ok (.putfield 49, 3) := by decide +kernel
theorem d1_95 : decode prog_2_method_2_code 95 = .ok (.aload_n 0, 1) := by decide +kernel
theorem d1_96 : decode prog_2_method_2_code 96 = .ok (.bipush 32, 2) := by decide +kernel
theorem d1_98 : decode prog_2_method_2_code 98 = .ok (.newarray .int, 2) := by decide +kernel
theorem d1_100 : decode prog_2_method_2_code 100 = .ok (.putfield 53, 3) := by decide +kernel
theorem d1_103 : decode prog_2_method_2_code 103 = .ok (.return_, 1) := by decide +kernel
theorem ef_1 (m : MethodId) (r0 : Addr) (p1 : Int32) (p2 : Int32) : entryFrame m #[(.ref r0), (.int p1), (.int p2)] 3 = mkF m 0 #[.val (.ref r0), .val (.int p1), .val (.int p2)] [] := by (first | (simp [entryFrame, mkF, argsToLocals, Value.category]; done) | rfl)
theorem pn3 : plainName "com/example/swapgraph/swapgraph/AllocationTable" = true := by first | (simp [plainName, overriddenIn]; done) | decide +kernel
def Q1 (Z : State) (r0 : Addr) (p1 : Int32) (p2 : Int32) (kk : Int32) (pw : Int32) (wd : Int32) (ln : Int32) (w7 : Int32) (w8 : Int32) (w9 : Int32) (w10 : Int32) (w11 : Int64) (w12 : Int32) (u_packed_r0 : Value) (u_slots_r0 : Value) (h0 : Heap) (n0 : Nat) (v : Option Value) (h : Heap) (L : List Loc) : Prop := v = none ∧ Fr n0 L ∧ Keep h0 h [r0] ∧ Exa Z h r0 "com/example/swapgraph/swapgraph/AllocationTable" ∧ Fld Z h r0 "com/example/swapgraph/swapgraph/AllocationTable" "bits" "I" (.int kk) ∧ Fld Z h r0 "com/example/swapgraph/swapgraph/AllocationTable" "perWord" "I" (.int pw) ∧ Fld Z h r0 "com/example/swapgraph/swapgraph/AllocationTable" "fieldMask" "J" (.long (((1 : Int64) <<< (kk &&& 0x3f).toInt64) - (1 : Int64)))
set_option maxRecDepth 65536 in
set_option maxHeartbeats 40000000 in
theorem rm1 (l : Launch) (Z : State) (a0 : Array Value) (hw : ∀ d ∈ tables_1, d.before a0 Z = true) (ws : List Jvm.Cond) (r0 : Addr) (p1 : Int32) (p2 : Int32) (kk : Int32) (pw : Int32) (wd : Int32) (ln : Int32) (w7 : Int32) (w8 : Int32) (w9 : Int32) (w10 : Int32) (w11 : Int64) (w12 : Int32) (u_packed_r0 : Value) (u_slots_r0 : Value) (h0 : Heap) (n0 : Nat) (Z0 : n0 ≤ h0.size) (hkk : own_r4 (1 : Int32) ((32 : Int32) - (own_r3 (p2 - (1 : Int32)))) = kk) (hpw : ((64 : Int32) / kk) = pw) (hwd : (((p1 + pw) - (1 : Int32)) / pw) = wd) (hln : ((16 : Int32) * wd) = ln) (hk0 : ¬ (kk = (0 : Int32))) (hp0 : ¬ (pw = (0 : Int32))) (hw0 : ¬ (wd = (0 : Int32))) (hl0 : ¬ ln < 0) (hlc : ln.toNatClampNeg ≤ 512) (E_r0 : Exa Z h0 r0 "com/example/swapgraph/swapgraph/AllocationTable") (F_agents_r0 : Fld Z h0 r0 "com/example/swapgraph/swapgraph/AllocationTable" "agents" "I" (.int w7)) (F_bits_r0 : Fld Z h0 r0 "com/example/swapgraph/swapgraph/AllocationTable" "bits" "I" (.int w8)) (F_perWord_r0 : Fld Z h0 r0 "com/example/swapgraph/swapgraph/AllocationTable" "perWord" "I" (.int w9)) (F_words_r0 : Fld Z h0 r0 "com/example/swapgraph/swapgraph/AllocationTable" "words" "I" (.int w10)) (F_fieldMask_r0 : Fld Z h0 r0 "com/example/swapgraph/swapgraph/AllocationTable" "fieldMask" "J" (.long w11)) (F_limit_r0 : Fld Z h0 r0 "com/example/swapgraph/swapgraph/AllocationTable" "limit" "I" (.int w12)) (F_packed_r0 : Fld Z h0 r0 "com/example/swapgraph/swapgraph/AllocationTable" "packed" "[J" u_packed_r0) (F_slots_r0 : Fld Z h0 r0 "com/example/swapgraph/swapgraph/AllocationTable" "slots" "[I" u_slots_r0) (g_r0 : n0 ≤ r0) :
    MetFree l (⟨"com/example/swapgraph/swapgraph/AllocationTable", "<init>", "(II)V"⟩ : MethodName) (head1 (Jvm.Cond.code (⟨"com/example/swapgraph/swapgraph/AllocationTable", "<init>", "(II)V"⟩ : MethodName) prog_2_method_2_code 3 none :: ws) ({ frames := 1, cells := 2, slots := 544, locals := 16 } : Room)) (fun a U => a = #[(.ref r0), (.int p1), (.int p2)] ∧ Z.Warmed39 U.vm ∧ U.heap = h0) (fun _ _ _ _ _ => True) (fun _ U o U' => ∃ v L, o = .returned v ∧ Q1 Z r0 p1 p2 kk pw wd ln w7 w8 w9 w10 w11 w12 u_packed_r0 u_slots_r0 h0 n0 v U'.heap L ∧ FrameEnd U o U' L ({ frames := 1, cells := 2, slots := 544, locals := 16 } : Room).cells ({ frames := 1, cells := 2, slots := 544, locals := 16 } : Room).slots) := by
  refine MetFree.of_bodySF (plainFor_of_name pn3) hisR ?_
  intro p e s m args below meth c s₁ Bd hml0 hP hK
  obtain ⟨rfl, hZ, hh⟩ := hP
  have hx := Bd.exec
  have hby := Bd.bytes
  have hml : c.maxLocals = 3 := hml0
  have hown : s.vm.findClass "com/example/swapgraph/swapgraph/AllocationTable" = some m.cls := findClass_of_methodNamed Bd.named
  have hnm := (name_of_methodNamed Bd.named Bd.method).1
  have X0 : Stand p l e ({ frames := 1, cells := 2, slots := 544, locals := 16 } : Room) s m #[(.ref r0), (.int p1), (.int p2)] below meth c s₁ [] 0 0 := Stand.of_body Bd
  have e0 : s₁.heap = h0 := by rw [← hh, Bd.state]; rfl
  have N0 := Fr.nil n0
  have K0 : Keep h0 h0 [r0] := Keep.refl h0 _
  show own_Go p e below s (Q1 Z r0 p1 p2 kk pw wd ln w7 w8 w9 w10 w11 w12 u_packed_r0 u_slots_r0 h0 n0) ({ frames := 1, cells := 2, slots := 544, locals := 16 } : Room).cells ({ frames := 1, cells := 2, slots := 544, locals := 16 } : Room).slots (s₁.setTop (entryFrame m #[(.ref r0), (.int p1), (.int p2)] 3))
  refine own_go (fun t k => castTop (ef_1 m r0 p1 p2) k) ?_
  obtain ⟨T101, X101, e101, st101⟩ := initO X0 hx hZ hown (hw _ (List.mem_of_getElem? (i := 8) rfl)) (hw _ (List.mem_of_getElem? (i := 9) rfl)) (hw _ (List.mem_of_getElem? (i := 10) rfl)) e0 (g := (mkF m 1 #[.val (.ref r0), .val (.int p1), .val (.int p2)] [(.ref r0)])) rfl (by rw [hml]; rfl) rfl (hb hby d1_1) (by decide) (W := 0) (by show 2 * 0 + _ ≤ _; exact Nat.le_of_eq rfl) (by decide)
  obtain ⟨T102, h102, X102, e102, W102, st102⟩ := putF X101 hx hZ hown (host := "") (Or.inl (hw _ (List.mem_of_getElem? (i := 11) rfl))) Via.refl e101 F_agents_r0 E_r0 (Or.inr ⟨(hw _ (List.mem_of_getElem? (i := 12) rfl)), rfl, hnm⟩) (hw _ (List.mem_of_getElem? (i := 3) rfl)) (ty := .int) (by decide) rfl rfl (g := (mkF m 6 #[.val (.ref r0), .val (.int p1), .val (.int p2)] [(.int p1), (.ref r0)])) rfl rfl (hb hby d1_6)
  have F103 := E_r0.wr W102
  have F104 := F_agents_r0.same W102
  have F105 := F_bits_r0.other W102 (Or.inr (slot_ne (Or.inr (hw _ (List.mem_of_getElem? (i := 23) rfl))) (Or.inr (hw _ (List.mem_of_getElem? (i := 12) rfl))) (by decide) (t := .int) (t' := .int) (by decide) (by decide)))
  have F106 := F_perWord_r0.other W102 (Or.inr (slot_ne (Or.inr (hw _ (List.mem_of_getElem? (i := 25) rfl))) (Or.inr (hw _ (List.mem_of_getElem? (i := 12) rfl))) (by decide) (t := .int) (t' := .int) (by decide) (by decide)))
  have F107 := F_words_r0.other W102 (Or.inr (slot_ne (Or.inr (hw _ (List.mem_of_getElem? (i := 27) rfl))) (Or.inr (hw _ (List.mem_of_getElem? (i := 12) rfl))) (by decide) (t := .int) (t' := .int) (by decide) (by decide)))
  have F108 := F_fieldMask_r0.other W102 (Or.inr (slot_ne (Or.inr (hw _ (List.mem_of_getElem? (i := 29) rfl))) (Or.inr (hw _ (List.mem_of_getElem? (i := 12) rfl))) (by decide) (t := .long) (t' := .int) (by decide) (by decide)))
  have F109 := F_limit_r0.other W102 (Or.inr (slot_ne (Or.inr (hw _ (List.mem_of_getElem? (i := 36) rfl))) (Or.inr (hw _ (List.mem_of_getElem? (i := 12) rfl))) (by decide) (t := .int) (t' := .int) (by decide) (by decide)))
  have F110 := F_packed_r0.other W102 (Or.inr (slot_ne (Or.inl (hw _ (List.mem_of_getElem? (i := 38) rfl))) (Or.inr (hw _ (List.mem_of_getElem? (i := 12) rfl))) (by decide) (t := (.array .long)) (t' := .int) (by decide) (by decide)))
  have F111 := F_slots_r0.other W102 (Or.inr (slot_ne (Or.inl (hw _ (List.mem_of_getElem? (i := 41) rfl))) (Or.inr (hw _ (List.mem_of_getElem? (i := 12) rfl))) (by decide) (t := (.array .int)) (t' := .int) (by decide) (by decide)))
  have Z112 : n0 ≤ h102.size := Nat.le_trans Z0 (Keep.of_wr W102).1
  have K113 : Keep h0 h102 [r0] := K0.wr W102 (Or.inl (List.mem_of_getElem? (i := 0) rfl))
  have N114 := Fr.snoc X102 N0 g_r0
  obtain ⟨v1, hv1⟩ : ∃ z : Int32, z = (p2 - (1 : Int32)) := ⟨_, rfl⟩
  obtain ⟨_, _, ⟨T115, L115, k115, n115⟩, -, X115, ⟨Lc115, hQ115, l115, y115, z115⟩, st115⟩ := Jvm.LawKit.callS X102 hx (y := (⟨"java/lang/Integer", "numberOfLeadingZeros", "(I)I"⟩ : MethodName)) hown (mvT hZ (hw _ (List.mem_of_getElem? (i := 13) rfl))) (mvT hZ (hw _ (List.mem_of_getElem? (i := 14) rfl))) (mvT hZ (hw _ (List.mem_of_getElem? (i := 15) rfl))) (mvT hZ (hw _ (List.mem_of_getElem? (i := 16) rfl))) (by decide) (backOf (W := 3) (rm3 l Z a0 hw [] v1 h102 n0 Z112 ) hZ (hw _ (List.mem_of_getElem? (i := 16) rfl)) (hw _ (List.mem_of_getElem? (i := 15) rfl)) (by decide) (by decide)) (g := (mkF m 16 #[.val (.ref r0), .val (.int p1), .val (.int p2)] [(.int v1), (.int (32 : Int32)), (.int (1 : Int32)), (.ref r0)])) rfl (by rw [hml]; rfl) (argsL := [(.int v1)]) (rest := [(.int (32 : Int32)), (.int (1 : Int32)), (.ref r0)]) (lenOf pd1 rfl) rfl (by show 2 * 0 + _ ≤ _; exact Nat.le_of_eq rfl) (hb hby d1_16) (fun _ _ => ⟨rfl, e102, (by decide : 0 + 0 ≤ _), (by decide : 0 + 0 ≤ _)⟩)
  dsimp only [Pt.U, Pt.locs, Pt.cells, Pt.slots] at X115 l115 y115 z115 st115 hQ115
  subst l115 y115 z115
  obtain ⟨rfl, N115q, e115⟩ := hQ115
  have N115 := Fr.app N114 N115q
  obtain ⟨v2, hv2⟩ : ∃ z : Int32, z = ((32 : Int32) - (own_r3 v1)) := ⟨_, rfl⟩
  obtain ⟨_, _, ⟨T116, L116, k116, n116⟩, -, X116, ⟨Lc116, hQ116, l116, y116, z116⟩, st116⟩ := Jvm.LawKit.callS X115 hx (y := (⟨"java/lang/Math", "max", "(II)I"⟩ : MethodName)) hown (mvT hZ (hw _ (List.mem_of_getElem? (i := 18) rfl))) (mvT hZ (hw _ (List.mem_of_getElem? (i := 19) rfl))) (mvT hZ (hw _ (List.mem_of_getElem? (i := 20) rfl))) (mvT hZ (hw _ (List.mem_of_getElem? (i := 21) rfl))) (by decide) (backOf (W := 1) (rm4 l Z a0 hw [] (1 : Int32) v2 h102 n0 Z112 ) hZ (hw _ (List.mem_of_getElem? (i := 21) rfl)) (hw _ (List.mem_of_getElem? (i := 20) rfl)) (by decide) (by decide)) (g := (mkF m 20 #[.val (.ref r0), .val (.int p1), .val (.int p2)] [(.int v2), (.int (1 : Int32)), (.ref r0)])) rfl (by rw [hml]; rfl) (argsL := [(.int (1 : Int32)), (.int v2)]) (rest := [(.ref r0)]) (lenOf pd2 rfl) rfl (by show 2 * 0 + _ ≤ _; exact Nat.le_of_eq rfl) (hb hby d1_20) (fun _ _ => ⟨rfl, e115, (by decide : 0 + 0 ≤ _), (by decide : 0 + 0 ≤ _)⟩)
  dsimp only [Pt.U, Pt.locs, Pt.cells, Pt.slots] at X116 l116 y116 z116 st116 hQ116
  subst l116 y116 z116
  obtain ⟨rfl, N116q, e116⟩ := hQ116
  have N116 := Fr.app N115 N116q
  obtain ⟨T117, h117, X117, e117, W117, st117⟩ := putF X116 hx hZ hown (host := "") (Or.inl (hw _ (List.mem_of_getElem? (i := 22) rfl))) Via.refl e116 F105 F103 (Or.inr ⟨(hw _ (List.mem_of_getElem? (i := 23) rfl)), rfl, hnm⟩) (hw _ (List.mem_of_getElem? (i := 3) rfl)) (ty := .int) (by decide) rfl rfl (g := (mkF m 23 #[.val (.ref r0), .val (.int p1), .val (.int p2)] [(.int kk), (.ref r0)])) rfl rfl (hb hby d1_23)
  have F118 := F103.wr W117
  have F119 := F104.other W117 (Or.inr (slot_ne (Or.inr (hw _ (List.mem_of_getElem? (i := 12) rfl))) (Or.inr (hw _ (List.mem_of_getElem? (i := 23) rfl))) (by decide) (t := .int) (t' := .int) (by decide) (by decide)))
  have F120 := F105.same W117
  have F121 := F106.other W117 (Or.inr (slot_ne (Or.inr (hw _ (List.mem_of_getElem? (i := 25) rfl))) (Or.inr (hw _ (List.mem_of_getElem? (i := 23) rfl))) (by decide) (t := .int) (t' := .int) (by decide) (by decide)))
  have F122 := F107.other W117 (Or.inr (slot_ne (Or.inr (hw _ (List.mem_of_getElem? (i := 27) rfl))) (Or.inr (hw _ (List.mem_of_getElem? (i := 23) rfl))) (by decide) (t := .int) (t' := .int) (by decide) (by decide)))
  have F123 := F108.other W117 (Or.inr (slot_ne (Or.inr (hw _ (List.mem_of_getElem? (i := 29) rfl))) (Or.inr (hw _ (List.mem_of_getElem? (i := 23) rfl))) (by decide) (t := .long) (t' := .int) (by decide) (by decide)))
  have F124 := F109.other W117 (Or.inr (slot_ne (Or.inr (hw _ (List.mem_of_getElem? (i := 36) rfl))) (Or.inr (hw _ (List.mem_of_getElem? (i := 23) rfl))) (by decide) (t := .int) (t' := .int) (by decide) (by decide)))
  have F125 := F110.other W117 (Or.inr (slot_ne (Or.inl (hw _ (List.mem_of_getElem? (i := 38) rfl))) (Or.inr (hw _ (List.mem_of_getElem? (i := 23) rfl))) (by decide) (t := (.array .long)) (t' := .int) (by decide) (by decide)))
  have F126 := F111.other W117 (Or.inr (slot_ne (Or.inl (hw _ (List.mem_of_getElem? (i := 41) rfl))) (Or.inr (hw _ (List.mem_of_getElem? (i := 23) rfl))) (by decide) (t := (.array .int)) (t' := .int) (by decide) (by decide)))
  have Z127 : n0 ≤ h117.size := Nat.le_trans Z112 (Keep.of_wr W117).1
  have K128 : Keep h0 h117 [r0] := K113.wr W117 (Or.inl (List.mem_of_getElem? (i := 0) rfl))
  have N129 := Fr.snoc X117 N116 g_r0
  obtain ⟨T130, X130, e130, st130⟩ := getF X117 hx hZ hown (host := "") (Or.inl (hw _ (List.mem_of_getElem? (i := 22) rfl))) Via.refl e117 F120 (g := (mkF m 30 #[.val (.ref r0), .val (.int p1), .val (.int p2)] [(.ref r0), (.int (64 : Int32)), (.ref r0)])) rfl rfl (hb hby d1_30)
  have hnz33_131 : ¬ (kk = (0 : Int32)) := hk0
  obtain ⟨T132, h132, X132, e132, W132, st132⟩ := putF X130 hx hZ hown (host := "") (Or.inl (hw _ (List.mem_of_getElem? (i := 24) rfl))) Via.refl e130 F121 F118 (Or.inr ⟨(hw _ (List.mem_of_getElem? (i := 25) rfl)), rfl, hnm⟩) (hw _ (List.mem_of_getElem? (i := 3) rfl)) (ty := .int) (by decide) rfl rfl (g := (mkF m 34 #[.val (.ref r0), .val (.int p1), .val (.int p2)] [(.int pw), (.ref r0)])) rfl rfl (hb hby d1_34)
  have F133 := F118.wr W132
  have F134 := F119.other W132 (Or.inr (slot_ne (Or.inr (hw _ (List.mem_of_getElem? (i := 12) rfl))) (Or.inr (hw _ (List.mem_of_getElem? (i := 25) rfl))) (by decide) (t := .int) (t' := .int) (by decide) (by decide)))
  have F135 := F120.other W132 (Or.inr (slot_ne (Or.inr (hw _ (List.mem_of_getElem? (i := 23) rfl))) (Or.inr (hw _ (List.mem_of_getElem? (i := 25) rfl))) (by decide) (t := .int) (t' := .int) (by decide) (by decide)))
  have F136 := F121.same W132
  have F137 := F122.other W132 (Or.inr (slot_ne (Or.inr (hw _ (List.mem_of_getElem? (i := 27) rfl))) (Or.inr (hw _ (List.mem_of_getElem? (i := 25) rfl))) (by decide) (t := .int) (t' := .int) (by decide) (by decide)))
  have F138 := F123.other W132 (Or.inr (slot_ne (Or.inr (hw _ (List.mem_of_getElem? (i := 29) rfl))) (Or.inr (hw _ (List.mem_of_getElem? (i := 25) rfl))) (by decide) (t := .long) (t' := .int) (by decide) (by decide)))
  have F139 := F124.other W132 (Or.inr (slot_ne (Or.inr (hw _ (List.mem_of_getElem? (i := 36) rfl))) (Or.inr (hw _ (List.mem_of_getElem? (i := 25) rfl))) (by decide) (t := .int) (t' := .int) (by decide) (by decide)))
  have F140 := F125.other W132 (Or.inr (slot_ne (Or.inl (hw _ (List.mem_of_getElem? (i := 38) rfl))) (Or.inr (hw _ (List.mem_of_getElem? (i := 25) rfl))) (by decide) (t := (.array .long)) (t' := .int) (by decide) (by decide)))
  have F141 := F126.other W132 (Or.inr (slot_ne (Or.inl (hw _ (List.mem_of_getElem? (i := 41) rfl))) (Or.inr (hw _ (List.mem_of_getElem? (i := 25) rfl))) (by decide) (t := (.array .int)) (t' := .int) (by decide) (by decide)))
  have Z142 : n0 ≤ h132.size := Nat.le_trans Z127 (Keep.of_wr W132).1
  have K143 : Keep h0 h132 [r0] := K128.wr W132 (Or.inl (List.mem_of_getElem? (i := 0) rfl))
  have N144 := Fr.snoc X132 N129 g_r0
  obtain ⟨T145, X145, e145, st145⟩ := getF X132 hx hZ hown (host := "") (Or.inl (hw _ (List.mem_of_getElem? (i := 24) rfl))) Via.refl e132 F136 (g := (mkF m 40 #[.val (.ref r0), .val (.int p1), .val (.int p2)] [(.ref r0), (.int p1), (.ref r0)])) rfl rfl (hb hby d1_40)
  obtain ⟨T146, X146, e146, st146⟩ := getF X145 hx hZ hown (host := "") (Or.inl (hw _ (List.mem_of_getElem? (i := 24) rfl))) Via.refl e145 F136 (g := (mkF m 47 #[.val (.ref r0), .val (.int p1), .val (.int p2)] [(.ref r0), (.int ((p1 + pw) - (1 : Int32))), (.ref r0)])) rfl rfl (hb hby d1_47)
  have hnz50_147 : ¬ (pw = (0 : Int32)) := hp0
  obtain ⟨T148, h148, X148, e148, W148, st148⟩ := putF X146 hx hZ hown (host := "") (Or.inl (hw _ (List.mem_of_getElem? (i := 26) rfl))) Via.refl e146 F137 F133 (Or.inr ⟨(hw _ (List.mem_of_getElem? (i := 27) rfl)), rfl, hnm⟩) (hw _ (List.mem_of_getElem? (i := 3) rfl)) (ty := .int) (by decide) rfl rfl (g := (mkF m 51 #[.val (.ref r0), .val (.int p1), .val (.int p2)] [(.int wd), (.ref r0)])) rfl rfl (hb hby d1_51)
  have F149 := F133.wr W148
  have F150 := F134.other W148 (Or.inr (slot_ne (Or.inr (hw _ (List.mem_of_getElem? (i := 12) rfl))) (Or.inr (hw _ (List.mem_of_getElem? (i := 27) rfl))) (by decide) (t := .int) (t' := .int) (by decide) (by decide)))
  have F151 := F135.other W148 (Or.inr (slot_ne (Or.inr (hw _ (List.mem_of_getElem? (i := 23) rfl))) (Or.inr (hw _ (List.mem_of_getElem? (i := 27) rfl))) (by decide) (t := .int) (t' := .int) (by decide) (by decide)))
  have F152 := F136.other W148 (Or.inr (slot_ne (Or.inr (hw _ (List.mem_of_getElem? (i := 25) rfl))) (Or.inr (hw _ (List.mem_of_getElem? (i := 27) rfl))) (by decide) (t := .int) (t' := .int) (by decide) (by decide)))
  have F153 := F137.same W148
  have F154 := F138.other W148 (Or.inr (slot_ne (Or.inr (hw _ (List.mem_of_getElem? (i := 29) rfl))) (Or.inr (hw _ (List.mem_of_getElem? (i := 27) rfl))) (by decide) (t := .long) (t' := .int) (by decide) (by decide)))
  have F155 := F139.other W148 (Or.inr (slot_ne (Or.inr (hw _ (List.mem_of_getElem? (i := 36) rfl))) (Or.inr (hw _ (List.mem_of_getElem? (i := 27) rfl))) (by decide) (t := .int) (t' := .int) (by decide) (by decide)))
  have F156 := F140.other W148 (Or.inr (slot_ne (Or.inl (hw _ (List.mem_of_getElem? (i := 38) rfl))) (Or.inr (hw _ (List.mem_of_getElem? (i := 27) rfl))) (by decide) (t := (.array .long)) (t' := .int) (by decide) (by decide)))
  have F157 := F141.other W148 (Or.inr (slot_ne (Or.inl (hw _ (List.mem_of_getElem? (i := 41) rfl))) (Or.inr (hw _ (List.mem_of_getElem? (i := 27) rfl))) (by decide) (t := (.array .int)) (t' := .int) (by decide) (by decide)))
  have Z158 : n0 ≤ h148.size := Nat.le_trans Z142 (Keep.of_wr W148).1
  have K159 : Keep h0 h148 [r0] := K143.wr W148 (Or.inl (List.mem_of_getElem? (i := 0) rfl))
  have N160 := Fr.snoc X148 N144 g_r0
  obtain ⟨T161, X161, e161, st161⟩ := getF X148 hx hZ hown (host := "") (Or.inl (hw _ (List.mem_of_getElem? (i := 22) rfl))) Via.refl e148 F151 (g := (mkF m 57 #[.val (.ref r0), .val (.int p1), .val (.int p2)] [(.ref r0), (.long (1 : Int64)), (.ref r0)])) rfl rfl (hb hby d1_57)
  obtain ⟨v3, hv3⟩ : ∃ z : Int64, z = (((1 : Int64) <<< (kk &&& 0x3f).toInt64) - (1 : Int64)) := ⟨_, rfl⟩
  obtain ⟨T162, h162, X162, e162, W162, st162⟩ := putF X161 hx hZ hown (host := "") (Or.inl (hw _ (List.mem_of_getElem? (i := 28) rfl))) Via.refl e161 F154 F149 (Or.inr ⟨(hw _ (List.mem_of_getElem? (i := 29) rfl)), rfl, hnm⟩) (hw _ (List.mem_of_getElem? (i := 3) rfl)) (ty := .long) (by decide) rfl rfl (g := (mkF m 63 #[.val (.ref r0), .val (.int p1), .val (.int p2)] [(.long v3), (.ref r0)])) rfl rfl (hb hby d1_63)
  have F163 := F149.wr W162
  have F164 := F150.other W162 (Or.inr (slot_ne (Or.inr (hw _ (List.mem_of_getElem? (i := 12) rfl))) (Or.inr (hw _ (List.mem_of_getElem? (i := 29) rfl))) (by decide) (t := .int) (t' := .long) (by decide) (by decide)))
  have F165 := F151.other W162 (Or.inr (slot_ne (Or.inr (hw _ (List.mem_of_getElem? (i := 23) rfl))) (Or.inr (hw _ (List.mem_of_getElem? (i := 29) rfl))) (by decide) (t := .int) (t' := .long) (by decide) (by decide)))
  have F166 := F152.other W162 (Or.inr (slot_ne (Or.inr (hw _ (List.mem_of_getElem? (i := 25) rfl))) (Or.inr (hw _ (List.mem_of_getElem? (i := 29) rfl))) (by decide) (t := .int) (t' := .long) (by decide) (by decide)))
  have F167 := F153.other W162 (Or.inr (slot_ne (Or.inr (hw _ (List.mem_of_getElem? (i := 27) rfl))) (Or.inr (hw _ (List.mem_of_getElem? (i := 29) rfl))) (by decide) (t := .int) (t' := .long) (by decide) (by decide)))
  have F168 := F154.same W162
  have F169 := F155.other W162 (Or.inr (slot_ne (Or.inr (hw _ (List.mem_of_getElem? (i := 36) rfl))) (Or.inr (hw _ (List.mem_of_getElem? (i := 29) rfl))) (by decide) (t := .int) (t' := .long) (by decide) (by decide)))
  have F170 := F156.other W162 (Or.inr (slot_ne (Or.inl (hw _ (List.mem_of_getElem? (i := 38) rfl))) (Or.inr (hw _ (List.mem_of_getElem? (i := 29) rfl))) (by decide) (t := (.array .long)) (t' := .long) (by decide) (by decide)))
  have F171 := F157.other W162 (Or.inr (slot_ne (Or.inl (hw _ (List.mem_of_getElem? (i := 41) rfl))) (Or.inr (hw _ (List.mem_of_getElem? (i := 29) rfl))) (by decide) (t := (.array .int)) (t' := .long) (by decide) (by decide)))
  have Z172 : n0 ≤ h162.size := Nat.le_trans Z158 (Keep.of_wr W162).1
  have K173 : Keep h0 h162 [r0] := K159.wr W162 (Or.inl (List.mem_of_getElem? (i := 0) rfl))
  have N174 := Fr.snoc X162 N160 g_r0
  obtain ⟨T175, X175, e175, st175⟩ := getF X162 hx hZ hown (host := "") (Or.inl (hw _ (List.mem_of_getElem? (i := 26) rfl))) Via.refl e162 F167 (g := (mkF m 72 #[.val (.ref r0), .val (.int p1), .val (.int p2)] [(.ref r0), (.int (2147483639 : Int32)), (.int (536870912 : Int32)), (.ref r0)])) rfl rfl (hb hby d1_72)
  have hnz75_176 : ¬ (wd = (0 : Int32)) := hw0
  obtain ⟨v4, hv4⟩ : ∃ z : Int32, z = ((2147483639 : Int32) / wd) := ⟨_, rfl⟩
  obtain ⟨_, _, ⟨T177, L177, k177, n177⟩, -, X177, ⟨Lc177, hQ177, l177, y177, z177⟩, st177⟩ := Jvm.LawKit.callS X175 hx (y := (⟨"java/lang/Math", "min", "(II)I"⟩ : MethodName)) hown (mvT hZ (hw _ (List.mem_of_getElem? (i := 32) rfl))) (mvT hZ (hw _ (List.mem_of_getElem? (i := 33) rfl))) (mvT hZ (hw _ (List.mem_of_getElem? (i := 20) rfl))) (mvT hZ (hw _ (List.mem_of_getElem? (i := 34) rfl))) (by decide) (backOf (W := 1) (rm5 l Z a0 hw [] (536870912 : Int32) v4 h162 n0 Z172 ) hZ (hw _ (List.mem_of_getElem? (i := 34) rfl)) (hw _ (List.mem_of_getElem? (i := 20) rfl)) (by decide) (by decide)) (g := (mkF m 76 #[.val (.ref r0), .val (.int p1), .val (.int p2)] [(.int v4), (.int (536870912 : Int32)), (.ref r0)])) rfl (by rw [hml]; rfl) (argsL := [(.int (536870912 : Int32)), (.int v4)]) (rest := [(.ref r0)]) (lenOf pd2 rfl) rfl (by show 2 * 0 + _ ≤ _; exact Nat.le_of_eq rfl) (hb hby d1_76) (fun _ _ => ⟨rfl, e175, (by decide : 0 + 0 ≤ _), (by decide : 0 + 0 ≤ _)⟩)
  dsimp only [Pt.U, Pt.locs, Pt.cells, Pt.slots] at X177 l177 y177 z177 st177 hQ177
  subst l177 y177 z177
  obtain ⟨rfl, N177q, e177⟩ := hQ177
  have N177 := Fr.app N174 N177q
  obtain ⟨v5, hv5⟩ : ∃ z : Int32, z = (own_r5 (536870912 : Int32) v4) := ⟨_, rfl⟩
  obtain ⟨T178, h178, X178, e178, W178, st178⟩ := putF X177 hx hZ hown (host := "") (Or.inl (hw _ (List.mem_of_getElem? (i := 35) rfl))) Via.refl e177 F169 F163 (Or.inr ⟨(hw _ (List.mem_of_getElem? (i := 36) rfl)), rfl, hnm⟩) (hw _ (List.mem_of_getElem? (i := 3) rfl)) (ty := .int) (by decide) rfl rfl (g := (mkF m 79 #[.val (.ref r0), .val (.int p1), .val (.int p2)] [(.int v5), (.ref r0)])) rfl rfl (hb hby d1_79)
  have F179 := F163.wr W178
  have F180 := F164.other W178 (Or.inr (slot_ne (Or.inr (hw _ (List.mem_of_getElem? (i := 12) rfl))) (Or.inr (hw _ (List.mem_of_getElem? (i := 36) rfl))) (by decide) (t := .int) (t' := .int) (by decide) (by decide)))
  have F181 := F165.other W178 (Or.inr (slot_ne (Or.inr (hw _ (List.mem_of_getElem? (i := 23) rfl))) (Or.inr (hw _ (List.mem_of_getElem? (i := 36) rfl))) (by decide) (t := .int) (t' := .int) (by decide) (by decide)))
  have F182 := F166.other W178 (Or.inr (slot_ne (Or.inr (hw _ (List.mem_of_getElem? (i := 25) rfl))) (Or.inr (hw _ (List.mem_of_getElem? (i := 36) rfl))) (by decide) (t := .int) (t' := .int) (by decide) (by decide)))
  have F183 := F167.other W178 (Or.inr (slot_ne (Or.inr (hw _ (List.mem_of_getElem? (i := 27) rfl))) (Or.inr (hw _ (List.mem_of_getElem? (i := 36) rfl))) (by decide) (t := .int) (t' := .int) (by decide) (by decide)))
  have F184 := F168.other W178 (Or.inr (slot_ne (Or.inr (hw _ (List.mem_of_getElem? (i := 29) rfl))) (Or.inr (hw _ (List.mem_of_getElem? (i := 36) rfl))) (by decide) (t := .long) (t' := .int) (by decide) (by decide)))
  have F185 := F169.same W178
  have F186 := F170.other W178 (Or.inr (slot_ne (Or.inl (hw _ (List.mem_of_getElem? (i := 38) rfl))) (Or.inr (hw _ (List.mem_of_getElem? (i := 36) rfl))) (by decide) (t := (.array .long)) (t' := .int) (by decide) (by decide)))
  have F187 := F171.other W178 (Or.inr (slot_ne (Or.inl (hw _ (List.mem_of_getElem? (i := 41) rfl))) (Or.inr (hw _ (List.mem_of_getElem? (i := 36) rfl))) (by decide) (t := (.array .int)) (t' := .int) (by decide) (by decide)))
  have Z188 : n0 ≤ h178.size := Nat.le_trans Z172 (Keep.of_wr W178).1
  have K189 : Keep h0 h178 [r0] := K173.wr W178 (Or.inl (List.mem_of_getElem? (i := 0) rfl))
  have N190 := Fr.snoc X178 N177 g_r0
  obtain ⟨T191, X191, e191, st191⟩ := getF X178 hx hZ hown (host := "") (Or.inl (hw _ (List.mem_of_getElem? (i := 26) rfl))) Via.refl e178 F183 (g := (mkF m 86 #[.val (.ref r0), .val (.int p1), .val (.int p2)] [(.ref r0), (.int (16 : Int32)), (.ref r0)])) rfl rfl (hb hby d1_86)
  obtain ⟨T192, h192, k192, X192, e192, E192, A192, st192⟩ := newP X191 hx hZ (hw _ (List.mem_of_getElem? (i := 1) rfl)) e191 (g := (mkF m 90 #[.val (.ref r0), .val (.int p1), .val (.int p2)] [(.int ln), (.ref r0)])) rfl (hb hby d1_90) rfl hl0 (cap := 512) hlc (by decide) (by decide) (by decide)
  obtain ⟨b192, g192⟩ : ∃ z, z = h178.size := ⟨_, rfl⟩
  rw [← g192] at A192 st192
  have ne_r0_b192 : r0 ≠ b192 := Nat.ne_of_lt (Nat.lt_of_lt_of_le F179.lt (Nat.le_of_eq g192.symm))
  have g_b192 : n0 ≤ b192 := Nat.le_trans Z188 (Nat.le_of_eq g192.symm)
  have sz_b192 : h0.size ≤ b192 := Nat.le_trans K189.1 (Nat.le_of_eq g192.symm)
  have F193 := F179.ext E192
  have F194 := F180.ext E192
  have F195 := F181.ext E192
  have F196 := F182.ext E192
  have F197 := F183.ext E192
  have F198 := F184.ext E192
  have F199 := F185.ext E192
  have F200 := F186.ext E192
  have F201 := F187.ext E192
  have Z202 : n0 ≤ h192.size := Nat.le_trans Z188 E192.1
  have K203 : Keep h0 h192 [r0] := K189.ext E192
  obtain ⟨v6, hv6⟩ : ∃ z : Nat → Int64, z = (fun _ => (0 : Int64)) := ⟨_, rfl⟩
  have F204 : own_AJ Z h192 b192 .long (ln.toNatClampNeg) v6 := by rw [hv6]; exact own_AJ.new A192 rfl rfl
  obtain ⟨T205, h205, X205, e205, W205, st205⟩ := putF X192 hx hZ hown (host := "") (Or.inl (hw _ (List.mem_of_getElem? (i := 37) rfl))) Via.refl e192 F200 F193 (Or.inl (hw _ (List.mem_of_getElem? (i := 38) rfl))) (hw _ (List.mem_of_getElem? (i := 3) rfl)) (ty := (.array .long)) (by decide) rfl rfl (g := (mkF m 92 #[.val (.ref r0), .val (.int p1), .val (.int p2)] [(.ref b192), (.ref r0)])) rfl rfl (hb hby d1_92)
  have F206 := F193.wr W205
  have F207 := F194.other W205 (Or.inr (slot_ne (Or.inr (hw _ (List.mem_of_getElem? (i := 12) rfl))) (Or.inl (hw _ (List.mem_of_getElem? (i := 38) rfl))) (by decide) (t := .int) (t' := (.array .long)) (by decide) (by decide)))
  have F208 := F195.other W205 (Or.inr (slot_ne (Or.inr (hw _ (List.mem_of_getElem? (i := 23) rfl))) (Or.inl (hw _ (List.mem_of_getElem? (i := 38) rfl))) (by decide) (t := .int) (t' := (.array .long)) (by decide) (by decide)))
  have F209 := F196.other W205 (Or.inr (slot_ne (Or.inr (hw _ (List.mem_of_getElem? (i := 25) rfl))) (Or.inl (hw _ (List.mem_of_getElem? (i := 38) rfl))) (by decide) (t := .int) (t' := (.array .long)) (by decide) (by decide)))
  have F210 := F197.other W205 (Or.inr (slot_ne (Or.inr (hw _ (List.mem_of_getElem? (i := 27) rfl))) (Or.inl (hw _ (List.mem_of_getElem? (i := 38) rfl))) (by decide) (t := .int) (t' := (.array .long)) (by decide) (by decide)))
  have F211 := F198.other W205 (Or.inr (slot_ne (Or.inr (hw _ (List.mem_of_getElem? (i := 29) rfl))) (Or.inl (hw _ (List.mem_of_getElem? (i := 38) rfl))) (by decide) (t := .long) (t' := (.array .long)) (by decide) (by decide)))
  have F212 := F199.other W205 (Or.inr (slot_ne (Or.inr (hw _ (List.mem_of_getElem? (i := 36) rfl))) (Or.inl (hw _ (List.mem_of_getElem? (i := 38) rfl))) (by decide) (t := .int) (t' := (.array .long)) (by decide) (by decide)))
  have F213 := F200.same W205
  have F214 := F201.other W205 (Or.inr (slot_ne (Or.inl (hw _ (List.mem_of_getElem? (i := 41) rfl))) (Or.inl (hw _ (List.mem_of_getElem? (i := 38) rfl))) (by decide) (t := (.array .int)) (t' := (.array .long)) (by decide) (by decide)))
  have F215 := F204.other W205 (Ne.symm ne_r0_b192)
  have Z216 : n0 ≤ h205.size := Nat.le_trans Z202 (Keep.of_wr W205).1
  have K217 : Keep h0 h205 [r0] := K203.wr W205 (Or.inl (List.mem_of_getElem? (i := 0) rfl))
  have N218 := Fr.snoc X205 N190 g_r0
  obtain ⟨T219, h219, k219, X219, e219, E219, A219, st219⟩ := newP X205 hx hZ (hw _ (List.mem_of_getElem? (i := 39) rfl)) e205 (g := (mkF m 98 #[.val (.ref r0), .val (.int p1), .val (.int p2)] [(.int (32 : Int32)), (.ref r0)])) rfl (hb hby d1_98) rfl (by decide) (cap := 32) (by decide) (by decide) (by decide) (by decide)
  obtain ⟨b219, g219⟩ : ∃ z, z = h205.size := ⟨_, rfl⟩
  rw [← g219] at A219 st219
  have ne_r0_b219 : r0 ≠ b219 := Nat.ne_of_lt (Nat.lt_of_lt_of_le F206.lt (Nat.le_of_eq g219.symm))
  have ne_b192_b219 : b192 ≠ b219 := Nat.ne_of_lt (Nat.lt_of_lt_of_le F215.lt (Nat.le_of_eq g219.symm))
  have g_b219 : n0 ≤ b219 := Nat.le_trans Z216 (Nat.le_of_eq g219.symm)
  have sz_b219 : h0.size ≤ b219 := Nat.le_trans K217.1 (Nat.le_of_eq g219.symm)
  have F220 := F206.ext E219
  have F221 := F207.ext E219
  have F222 := F208.ext E219
  have F223 := F209.ext E219
  have F224 := F210.ext E219
  have F225 := F211.ext E219
  have F226 := F212.ext E219
  have F227 := F213.ext E219
  have F228 := F214.ext E219
  have F229 := F215.ext E219
  have Z230 : n0 ≤ h219.size := Nat.le_trans Z216 E219.1
  have K231 : Keep h0 h219 [r0] := K217.ext E219
  obtain ⟨v7, hv7⟩ : ∃ z : Nat → Int32, z = (fun _ => (0 : Int32)) := ⟨_, rfl⟩
  have F232 : own_AI Z h219 b219 .int 32 v7 := by rw [hv7]; exact own_AI.new A219 rfl (by decide)
  obtain ⟨T233, h233, X233, e233, W233, st233⟩ := putF X219 hx hZ hown (host := "") (Or.inl (hw _ (List.mem_of_getElem? (i := 40) rfl))) Via.refl e219 F228 F220 (Or.inl (hw _ (List.mem_of_getElem? (i := 41) rfl))) (hw _ (List.mem_of_getElem? (i := 3) rfl)) (ty := (.array .int)) (by decide) rfl rfl (g := (mkF m 100 #[.val (.ref r0), .val (.int p1), .val (.int p2)] [(.ref b219), (.ref r0)])) rfl rfl (hb hby d1_100)
  have F234 := F220.wr W233
  have F235 := F221.other W233 (Or.inr (slot_ne (Or.inr (hw _ (List.mem_of_getElem? (i := 12) rfl))) (Or.inl (hw _ (List.mem_of_getElem? (i := 41) rfl))) (by decide) (t := .int) (t' := (.array .int)) (by decide) (by decide)))
  have F236 := F222.other W233 (Or.inr (slot_ne (Or.inr (hw _ (List.mem_of_getElem? (i := 23) rfl))) (Or.inl (hw _ (List.mem_of_getElem? (i := 41) rfl))) (by decide) (t := .int) (t' := (.array .int)) (by decide) (by decide)))
  have F237 := F223.other W233 (Or.inr (slot_ne (Or.inr (hw _ (List.mem_of_getElem? (i := 25) rfl))) (Or.inl (hw _ (List.mem_of_getElem? (i := 41) rfl))) (by decide) (t := .int) (t' := (.array .int)) (by decide) (by decide)))
  have F238 := F224.other W233 (Or.inr (slot_ne (Or.inr (hw _ (List.mem_of_getElem? (i := 27) rfl))) (Or.inl (hw _ (List.mem_of_getElem? (i := 41) rfl))) (by decide) (t := .int) (t' := (.array .int)) (by decide) (by decide)))
  have F239 := F225.other W233 (Or.inr (slot_ne (Or.inr (hw _ (List.mem_of_getElem? (i := 29) rfl))) (Or.inl (hw _ (List.mem_of_getElem? (i := 41) rfl))) (by decide) (t := .long) (t' := (.array .int)) (by decide) (by decide)))
  have F240 := F226.other W233 (Or.inr (slot_ne (Or.inr (hw _ (List.mem_of_getElem? (i := 36) rfl))) (Or.inl (hw _ (List.mem_of_getElem? (i := 41) rfl))) (by decide) (t := .int) (t' := (.array .int)) (by decide) (by decide)))
  have F241 := F227.other W233 (Or.inr (slot_ne (Or.inl (hw _ (List.mem_of_getElem? (i := 38) rfl))) (Or.inl (hw _ (List.mem_of_getElem? (i := 41) rfl))) (by decide) (t := (.array .long)) (t' := (.array .int)) (by decide) (by decide)))
  have F242 := F228.same W233
  have F243 := F229.other W233 (Ne.symm ne_r0_b192)
  have F244 := F232.other W233 (Ne.symm ne_r0_b219)
  have Z245 : n0 ≤ h233.size := Nat.le_trans Z230 (Keep.of_wr W233).1
  have K246 : Keep h0 h233 [r0] := K231.wr W233 (Or.inl (List.mem_of_getElem? (i := 0) rfl))
  have N247 := Fr.snoc X233 N218 g_r0
  have hgo248 : ∀ t, Steps p.tables e below (T233.setTop (mkF m 103 #[.val (.ref r0), .val (.int p1), .val (.int p2)] [])) t → Steps p.tables e below (s₁.setTop (mkF m 0 #[.val (.ref r0), .val (.int p1), .val (.int p2)] [])) t := by
    intro t kt
    show Steps p.tables e below (s₁.setTop (mkF m 0 #[.val (.ref r0), .val (.int p1), .val (.int p2)] [])) _
    refine XS.aloadN X0.here hx rfl (hb hby d1_0) rfl rfl ?_
    show Steps p.tables e below (s₁.setTop (mkF m 1 #[.val (.ref r0), .val (.int p1), .val (.int p2)] [(.ref r0)])) _
    refine st101 _ ?_
    show Steps p.tables e below (T101.setTop (mkF m 4 #[.val (.ref r0), .val (.int p1), .val (.int p2)] [])) _
    refine XS.aloadN X101.here hx rfl (hb hby d1_4) rfl rfl ?_
    show Steps p.tables e below (T101.setTop (mkF m 5 #[.val (.ref r0), .val (.int p1), .val (.int p2)] [(.ref r0)])) _
    refine XS.iloadN X101.here hx rfl (hb hby d1_5) rfl ?_
    show Steps p.tables e below (T101.setTop (mkF m 6 #[.val (.ref r0), .val (.int p1), .val (.int p2)] [(.int p1), (.ref r0)])) _
    refine st102 _ ?_
    show Steps p.tables e below (T102.setTop (mkF m 9 #[.val (.ref r0), .val (.int p1), .val (.int p2)] [])) _
    refine XS.aloadN X102.here hx rfl (hb hby d1_9) rfl rfl ?_
    show Steps p.tables e below (T102.setTop (mkF m 10 #[.val (.ref r0), .val (.int p1), .val (.int p2)] [(.ref r0)])) _
    refine XS.iconst X102.here hx rfl (hb hby d1_10) ?_
    show Steps p.tables e below (T102.setTop (mkF m 11 #[.val (.ref r0), .val (.int p1), .val (.int p2)] [(.int (1 : Int32)), (.ref r0)])) _
    refine XS.bipush X102.here hx rfl (hb hby d1_11) ?_
    show Steps p.tables e below (T102.setTop (mkF m 13 #[.val (.ref r0), .val (.int p1), .val (.int p2)] [(.int (32 : Int32)), (.int (1 : Int32)), (.ref r0)])) _
    refine XS.iloadN X102.here hx rfl (hb hby d1_13) rfl ?_
    show Steps p.tables e below (T102.setTop (mkF m 14 #[.val (.ref r0), .val (.int p1), .val (.int p2)] [(.int p2), (.int (32 : Int32)), (.int (1 : Int32)), (.ref r0)])) _
    refine XS.iconst X102.here hx rfl (hb hby d1_14) ?_
    show Steps p.tables e below (T102.setTop (mkF m 15 #[.val (.ref r0), .val (.int p1), .val (.int p2)] [(.int (1 : Int32)), (.int p2), (.int (32 : Int32)), (.int (1 : Int32)), (.ref r0)])) _
    refine XS.isub X102.here hx rfl (hb hby d1_15) rfl ?_
    show Steps p.tables e below (T102.setTop (mkF m 16 #[.val (.ref r0), .val (.int p1), .val (.int p2)] [(.int (p2 - (1 : Int32))), (.int (32 : Int32)), (.int (1 : Int32)), (.ref r0)])) _
    rw [← hv1]
    show Steps p.tables e below (T102.setTop (mkF m 16 #[.val (.ref r0), .val (.int p1), .val (.int p2)] [(.int v1), (.int (32 : Int32)), (.int (1 : Int32)), (.ref r0)])) _
    refine st115 _ ?_
    show Steps p.tables e below (T115.setTop (mkF m 19 #[.val (.ref r0), .val (.int p1), .val (.int p2)] [(.int (own_r3 v1)), (.int (32 : Int32)), (.int (1 : Int32)), (.ref r0)])) _
    refine XS.isub X115.here hx rfl (hb hby d1_19) rfl ?_
    show Steps p.tables e below (T115.setTop (mkF m 20 #[.val (.ref r0), .val (.int p1), .val (.int p2)] [(.int ((32 : Int32) - (own_r3 v1))), (.int (1 : Int32)), (.ref r0)])) _
    rw [← hv2]
    show Steps p.tables e below (T115.setTop (mkF m 20 #[.val (.ref r0), .val (.int p1), .val (.int p2)] [(.int v2), (.int (1 : Int32)), (.ref r0)])) _
    refine st116 _ ?_
    show Steps p.tables e below (T116.setTop (mkF m 23 #[.val (.ref r0), .val (.int p1), .val (.int p2)] [(.int (own_r4 (1 : Int32) v2)), (.ref r0)])) _
    rw [show (own_r4 (1 : Int32) v2) = kk from by rw [hv2, hv1]; exact hkk]
    show Steps p.tables e below (T116.setTop (mkF m 23 #[.val (.ref r0), .val (.int p1), .val (.int p2)] [(.int kk), (.ref r0)])) _
    refine st117 _ ?_
    show Steps p.tables e below (T117.setTop (mkF m 26 #[.val (.ref r0), .val (.int p1), .val (.int p2)] [])) _
    refine XS.aloadN X117.here hx rfl (hb hby d1_26) rfl rfl ?_
    show Steps p.tables e below (T117.setTop (mkF m 27 #[.val (.ref r0), .val (.int p1), .val (.int p2)] [(.ref r0)])) _
    refine XS.bipush X117.here hx rfl (hb hby d1_27) ?_
    show Steps p.tables e below (T117.setTop (mkF m 29 #[.val (.ref r0), .val (.int p1), .val (.int p2)] [(.int (64 : Int32)), (.ref r0)])) _
    refine XS.aloadN X117.here hx rfl (hb hby d1_29) rfl rfl ?_
    show Steps p.tables e below (T117.setTop (mkF m 30 #[.val (.ref r0), .val (.int p1), .val (.int p2)] [(.ref r0), (.int (64 : Int32)), (.ref r0)])) _
    refine st130 _ ?_
    show Steps p.tables e below (T130.setTop (mkF m 33 #[.val (.ref r0), .val (.int p1), .val (.int p2)] [(.int kk), (.int (64 : Int32)), (.ref r0)])) _
    refine XS.idiv X130.here hx rfl (hb hby d1_33) rfl hnz33_131 ?_
    show Steps p.tables e below (T130.setTop (mkF m 34 #[.val (.ref r0), .val (.int p1), .val (.int p2)] [(.int ((64 : Int32) / kk)), (.ref r0)])) _
    rw [show ((64 : Int32) / kk) = pw from by exact hpw]
    show Steps p.tables e below (T130.setTop (mkF m 34 #[.val (.ref r0), .val (.int p1), .val (.int p2)] [(.int pw), (.ref r0)])) _
    refine st132 _ ?_
    show Steps p.tables e below (T132.setTop (mkF m 37 #[.val (.ref r0), .val (.int p1), .val (.int p2)] [])) _
    refine XS.aloadN X132.here hx rfl (hb hby d1_37) rfl rfl ?_
    show Steps p.tables e below (T132.setTop (mkF m 38 #[.val (.ref r0), .val (.int p1), .val (.int p2)] [(.ref r0)])) _
    refine XS.iloadN X132.here hx rfl (hb hby d1_38) rfl ?_
    show Steps p.tables e below (T132.setTop (mkF m 39 #[.val (.ref r0), .val (.int p1), .val (.int p2)] [(.int p1), (.ref r0)])) _
    refine XS.aloadN X132.here hx rfl (hb hby d1_39) rfl rfl ?_
    show Steps p.tables e below (T132.setTop (mkF m 40 #[.val (.ref r0), .val (.int p1), .val (.int p2)] [(.ref r0), (.int p1), (.ref r0)])) _
    refine st145 _ ?_
    show Steps p.tables e below (T145.setTop (mkF m 43 #[.val (.ref r0), .val (.int p1), .val (.int p2)] [(.int pw), (.int p1), (.ref r0)])) _
    refine XS.iadd X145.here hx rfl (hb hby d1_43) rfl ?_
    show Steps p.tables e below (T145.setTop (mkF m 44 #[.val (.ref r0), .val (.int p1), .val (.int p2)] [(.int (p1 + pw)), (.ref r0)])) _
    refine XS.iconst X145.here hx rfl (hb hby d1_44) ?_
    show Steps p.tables e below (T145.setTop (mkF m 45 #[.val (.ref r0), .val (.int p1), .val (.int p2)] [(.int (1 : Int32)), (.int (p1 + pw)), (.ref r0)])) _
    refine XS.isub X145.here hx rfl (hb hby d1_45) rfl ?_
    show Steps p.tables e below (T145.setTop (mkF m 46 #[.val (.ref r0), .val (.int p1), .val (.int p2)] [(.int ((p1 + pw) - (1 : Int32))), (.ref r0)])) _
    refine XS.aloadN X145.here hx rfl (hb hby d1_46) rfl rfl ?_
    show Steps p.tables e below (T145.setTop (mkF m 47 #[.val (.ref r0), .val (.int p1), .val (.int p2)] [(.ref r0), (.int ((p1 + pw) - (1 : Int32))), (.ref r0)])) _
    refine st146 _ ?_
    show Steps p.tables e below (T146.setTop (mkF m 50 #[.val (.ref r0), .val (.int p1), .val (.int p2)] [(.int pw), (.int ((p1 + pw) - (1 : Int32))), (.ref r0)])) _
    refine XS.idiv X146.here hx rfl (hb hby d1_50) rfl hnz50_147 ?_
    show Steps p.tables e below (T146.setTop (mkF m 51 #[.val (.ref r0), .val (.int p1), .val (.int p2)] [(.int (((p1 + pw) - (1 : Int32)) / pw)), (.ref r0)])) _
    rw [show (((p1 + pw) - (1 : Int32)) / pw) = wd from by exact hwd]
    show Steps p.tables e below (T146.setTop (mkF m 51 #[.val (.ref r0), .val (.int p1), .val (.int p2)] [(.int wd), (.ref r0)])) _
    refine st148 _ ?_
    show Steps p.tables e below (T148.setTop (mkF m 54 #[.val (.ref r0), .val (.int p1), .val (.int p2)] [])) _
    refine XS.aloadN X148.here hx rfl (hb hby d1_54) rfl rfl ?_
    show Steps p.tables e below (T148.setTop (mkF m 55 #[.val (.ref r0), .val (.int p1), .val (.int p2)] [(.ref r0)])) _
    refine XS.lconst X148.here hx rfl (hb hby d1_55) ?_
    show Steps p.tables e below (T148.setTop (mkF m 56 #[.val (.ref r0), .val (.int p1), .val (.int p2)] [(.long (1 : Int64)), (.ref r0)])) _
    refine XS.aloadN X148.here hx rfl (hb hby d1_56) rfl rfl ?_
    show Steps p.tables e below (T148.setTop (mkF m 57 #[.val (.ref r0), .val (.int p1), .val (.int p2)] [(.ref r0), (.long (1 : Int64)), (.ref r0)])) _
    refine st161 _ ?_
    show Steps p.tables e below (T161.setTop (mkF m 60 #[.val (.ref r0), .val (.int p1), .val (.int p2)] [(.int kk), (.long (1 : Int64)), (.ref r0)])) _
    refine XS.lshl X161.here hx rfl (hb hby d1_60) rfl ?_
    show Steps p.tables e below (T161.setTop (mkF m 61 #[.val (.ref r0), .val (.int p1), .val (.int p2)] [(.long ((1 : Int64) <<< (kk &&& 0x3f).toInt64)), (.ref r0)])) _
    refine XS.lconst X161.here hx rfl (hb hby d1_61) ?_
    show Steps p.tables e below (T161.setTop (mkF m 62 #[.val (.ref r0), .val (.int p1), .val (.int p2)] [(.long (1 : Int64)), (.long ((1 : Int64) <<< (kk &&& 0x3f).toInt64)), (.ref r0)])) _
    refine XS.lsub X161.here hx rfl (hb hby d1_62) rfl ?_
    show Steps p.tables e below (T161.setTop (mkF m 63 #[.val (.ref r0), .val (.int p1), .val (.int p2)] [(.long (((1 : Int64) <<< (kk &&& 0x3f).toInt64) - (1 : Int64))), (.ref r0)])) _
    rw [← hv3]
    refine st162 _ ?_
    show Steps p.tables e below (T162.setTop (mkF m 66 #[.val (.ref r0), .val (.int p1), .val (.int p2)] [])) _
    refine XS.aloadN X162.here hx rfl (hb hby d1_66) rfl rfl ?_
    show Steps p.tables e below (T162.setTop (mkF m 67 #[.val (.ref r0), .val (.int p1), .val (.int p2)] [(.ref r0)])) _
    refine X162.ldcInt hx hown (mvT hZ (hw _ (List.mem_of_getElem? (i := 30) rfl))) (g := (mkF m 67 #[.val (.ref r0), .val (.int p1), .val (.int p2)] [(.ref r0)])) rfl (hb hby d1_67) _ ?_
    show Steps p.tables e below (T162.setTop (mkF m 69 #[.val (.ref r0), .val (.int p1), .val (.int p2)] [(.int (536870912 : Int32)), (.ref r0)])) _
    refine X162.ldcInt hx hown (mvT hZ (hw _ (List.mem_of_getElem? (i := 31) rfl))) (g := (mkF m 69 #[.val (.ref r0), .val (.int p1), .val (.int p2)] [(.int (536870912 : Int32)), (.ref r0)])) rfl (hb hby d1_69) _ ?_
    show Steps p.tables e below (T162.setTop (mkF m 71 #[.val (.ref r0), .val (.int p1), .val (.int p2)] [(.int (2147483639 : Int32)), (.int (536870912 : Int32)), (.ref r0)])) _
    refine XS.aloadN X162.here hx rfl (hb hby d1_71) rfl rfl ?_
    show Steps p.tables e below (T162.setTop (mkF m 72 #[.val (.ref r0), .val (.int p1), .val (.int p2)] [(.ref r0), (.int (2147483639 : Int32)), (.int (536870912 : Int32)), (.ref r0)])) _
    refine st175 _ ?_
    show Steps p.tables e below (T175.setTop (mkF m 75 #[.val (.ref r0), .val (.int p1), .val (.int p2)] [(.int wd), (.int (2147483639 : Int32)), (.int (536870912 : Int32)), (.ref r0)])) _
    refine XS.idiv X175.here hx rfl (hb hby d1_75) rfl hnz75_176 ?_
    show Steps p.tables e below (T175.setTop (mkF m 76 #[.val (.ref r0), .val (.int p1), .val (.int p2)] [(.int ((2147483639 : Int32) / wd)), (.int (536870912 : Int32)), (.ref r0)])) _
    rw [← hv4]
    show Steps p.tables e below (T175.setTop (mkF m 76 #[.val (.ref r0), .val (.int p1), .val (.int p2)] [(.int v4), (.int (536870912 : Int32)), (.ref r0)])) _
    refine st177 _ ?_
    show Steps p.tables e below (T177.setTop (mkF m 79 #[.val (.ref r0), .val (.int p1), .val (.int p2)] [(.int (own_r5 (536870912 : Int32) v4)), (.ref r0)])) _
    rw [← hv5]
    refine st178 _ ?_
    show Steps p.tables e below (T178.setTop (mkF m 82 #[.val (.ref r0), .val (.int p1), .val (.int p2)] [])) _
    refine XS.aloadN X178.here hx rfl (hb hby d1_82) rfl rfl ?_
    show Steps p.tables e below (T178.setTop (mkF m 83 #[.val (.ref r0), .val (.int p1), .val (.int p2)] [(.ref r0)])) _
    refine XS.bipush X178.here hx rfl (hb hby d1_83) ?_
    show Steps p.tables e below (T178.setTop (mkF m 85 #[.val (.ref r0), .val (.int p1), .val (.int p2)] [(.int (16 : Int32)), (.ref r0)])) _
    refine XS.aloadN X178.here hx rfl (hb hby d1_85) rfl rfl ?_
    show Steps p.tables e below (T178.setTop (mkF m 86 #[.val (.ref r0), .val (.int p1), .val (.int p2)] [(.ref r0), (.int (16 : Int32)), (.ref r0)])) _
    refine st191 _ ?_
    show Steps p.tables e below (T191.setTop (mkF m 89 #[.val (.ref r0), .val (.int p1), .val (.int p2)] [(.int wd), (.int (16 : Int32)), (.ref r0)])) _
    refine XS.imul X191.here hx rfl (hb hby d1_89) rfl ?_
    show Steps p.tables e below (T191.setTop (mkF m 90 #[.val (.ref r0), .val (.int p1), .val (.int p2)] [(.int ((16 : Int32) * wd)), (.ref r0)])) _
    rw [show ((16 : Int32) * wd) = ln from by exact hln]
    show Steps p.tables e below (T191.setTop (mkF m 90 #[.val (.ref r0), .val (.int p1), .val (.int p2)] [(.int ln), (.ref r0)])) _
    refine st192 _ ?_
    show Steps p.tables e below (T192.setTop (mkF m 92 #[.val (.ref r0), .val (.int p1), .val (.int p2)] [(.ref b192), (.ref r0)])) _
    refine st205 _ ?_
    show Steps p.tables e below (T205.setTop (mkF m 95 #[.val (.ref r0), .val (.int p1), .val (.int p2)] [])) _
    refine XS.aloadN X205.here hx rfl (hb hby d1_95) rfl rfl ?_
    show Steps p.tables e below (T205.setTop (mkF m 96 #[.val (.ref r0), .val (.int p1), .val (.int p2)] [(.ref r0)])) _
    refine XS.bipush X205.here hx rfl (hb hby d1_96) ?_
    show Steps p.tables e below (T205.setTop (mkF m 98 #[.val (.ref r0), .val (.int p1), .val (.int p2)] [(.int (32 : Int32)), (.ref r0)])) _
    refine st219 _ ?_
    show Steps p.tables e below (T219.setTop (mkF m 100 #[.val (.ref r0), .val (.int p1), .val (.int p2)] [(.ref b219), (.ref r0)])) _
    refine st233 _ ?_
    exact kt
  refine own_go hgo248 ?_
  exact own_retV X233 hx Bd.returns Bd.notSynchronized (hb hby d1_103) (by decide) (by decide) (by rw [e233]; exact ⟨(by rfl), N247, K246, F234, F236, F237, (by rw [← hv3]; exact F239)⟩)
theorem d6_0 : decode prog_2_method_7_code 0 = .ok (.iload_n 2, 1) := by decide +kernel
theorem d6_1 : decode prog_2_method_7_code 1 = .ok (.iconst 1, 1) := by decide +kernel
theorem d6_2 : decode prog_2_method_7_code 2 = .ok (.isub, 1) := by decide +kernel
theorem d6_3 : decode prog_2_method_7_code 3 = .ok (.istore 4, 2) := by decide +kernel
theorem d6_5 : decode prog_2_method_7_code 5 = .ok (.iload 4, 2) := by decide +kernel
theorem d6_7 : decode prog_2_method_7_code 7 = .ok (.aload_n 0, 1) := by decide +kernel
theorem d6_8 : decode prog_2_method_7_code 8 = .ok (.getfield 31, 3) := by decide +kernel
theorem d6_11 : decode prog_2_method_7_code 11 = .ok (.irem, 1) := by decide +kernel
theorem d6_12 : decode prog_2_method_7_code 12 = .ok (.aload_n 0, 1) := by decide +kernel
theorem d6_13 : decode prog_2_method_7_code 13 = .ok (.getfield 28, 3) := by decide +kernel
theorem d6_16 : decode prog_2_method_7_code 16 = .ok (.imul, 1) := by decide +kernel
theorem d6_17 : decode prog_2_method_7_code 17 = .ok (.istore 5, 2) := by decide +kernel
theorem d6_19 : decode prog_2_method_7_code 19 = .ok (.aload_n 1, 1) := by decide +kernel
theorem d6_20 : decode prog_2_method_7_code 20 = .ok (.iload 4, 2) := by decide +kernel
theorem d6_22 : decode prog_2_method_7_code 22 = .ok (.aload_n 0, 1) := by decide +kernel
theorem d6_23 : decode prog_2_method_7_code 23 = .ok (.getfield 31, 3) := by decide +kernel
theorem d6_26 : decode prog_2_method_7_code 26 = .ok (.idiv, 1) := by decide +kernel
theorem d6_27 : decode prog_2_method_7_code 27 = .ok (.aload_n 1, 1) := by decide +kernel
theorem d6_28 : decode prog_2_method_7_code 28 = .ok (.iload 4, 2) := by decide +kernel
theorem d6_30 : decode prog_2_method_7_code 30 = .ok (.aload_n 0, 1) := by decide +kernel
theorem d6_31 : decode prog_2_method_7_code 31 = .ok (.getfield 31, 3) := by decide +kernel
theorem d6_34 : decode prog_2_method_7_code 34 = .ok (.idiv, 1) := by decide +kernel
theorem d6_35 : decode prog_2_method_7_code 35 = .ok (.laload, 1) := by decide +kernel
theorem d6_36 : decode prog_2_method_7_code 36 = .ok (.aload_n 0, 1) := by decide +kernel
theorem d6_37 : decode prog_2_method_7_code 37 = .ok (.getfield 37, 3) := by decide +kernel
theorem d6_40 : decode prog_2_method_7_code 40 = .ok (.iload 5, 2) := by decide +kernel
theorem d6_42 : decode prog_2_method_7_code 42 = .ok (.lshl, 1) := by decide +kernel
theorem d6_43 : decode prog_2_method_7_code 43 = .ok (.ldc2_w 66, 3) := by decide +kernel
theorem d6_46 : decode prog_2_method_7_code 46 = .ok (.lxor, 1) := by decide +kernel
theorem d6_47 : decode prog_2_method_7_code 47 = .ok (.land, 1) := by decide +kernel
theorem d6_48 : decode prog_2_method_7_code 48 = .ok (.iload_n 3, 1) := by decide +kernel
theorem d6_49 : decode prog_2_method_7_code 49 = .ok (.iconst 1, 1) := by decide +kernel
theorem d6_50 : decode prog_2_method_7_code 50 = .ok (.isub, 1) := by decide +kernel
theorem d6_51 : decode prog_2_method_7_code 51 = .ok (.i2l, 1) := by decide +kernel
theorem d6_52 : decode prog_2_method_7_code 52 = .ok (.iload 5, 2) := by decide +kernel
theorem d6_54 : decode prog_2_method_7_code 54 = .ok (.lshl, 1) := by decide +kernel
theorem d6_55 : decode prog_2_method_7_code 55 = .ok (.lor, 1) := by decide +kernel
theorem d6_56 : decode prog_2_method_7_code 56 = .ok (.lastore, 1) := by decide +kernel
theorem d6_57 : decode prog_2_method_7_code 57 = .ok (.return_, 1) := by decide +kernel
theorem ef_6 (m : MethodId) (r0 : Addr) (r1 : Addr) (p2 : Int32) (p3 : Int32) : entryFrame m #[(.ref r0), (.ref r1), (.int p2), (.int p3)] 6 = mkF m 0 #[.val (.ref r0), .val (.ref r1), .val (.int p2), .val (.int p3), .unset, .unset] [] := by (first | (simp [entryFrame, mkF, argsToLocals, Value.category]; done) | rfl)
def Q6 (Z : State) (r0 : Addr) (r1 : Addr) (p2 : Int32) (p3 : Int32) (f : Nat → Int64) (pw : Int32) (w6 : Int32) (w7 : Int64) (h0 : Heap) (n0 : Nat) (v : Option Value) (h : Heap) (L : List Loc) : Prop := v = none ∧ Fr n0 L ∧ Keep h0 h [r1] ∧ own_AJ Z h r1 .long 64 (own_up f (((p2 - (1 : Int32)) / pw).toNatClampNeg) (((f ((p2 - (1 : Int32)) / pw).toNatClampNeg) &&& ((w7 <<< ((((p2 - (1 : Int32)) % pw) * w6) &&& 0x3f).toInt64) ^^^ (-1 : Int64))) ||| (((p3 - (1 : Int32)).toInt64) <<< ((((p2 - (1 : Int32)) % pw) * w6) &&& 0x3f).toInt64)))
set_option maxRecDepth 65536 in
set_option maxHeartbeats 40000000 in
theorem rm6 (l : Launch) (Z : State) (a0 : Array Value) (hw : ∀ d ∈ tables_1, d.before a0 Z = true) (ws : List Jvm.Cond) (r0 : Addr) (r1 : Addr) (p2 : Int32) (p3 : Int32) (f : Nat → Int64) (pw : Int32) (w6 : Int32) (w7 : Int64) (h0 : Heap) (n0 : Nat) (Z0 : n0 ≤ h0.size) (A_r1 : own_AJ Z h0 r1 .long 64 f) (F_perWord_r0 : Fld Z h0 r0 "com/example/swapgraph/swapgraph/AllocationTable" "perWord" "I" (.int pw)) (hp0 : ¬ (pw = (0 : Int32))) (hin : ¬ ((p2 - (1 : Int32)) / pw) < 0 ∧ ((p2 - (1 : Int32)) / pw).toNatClampNeg < 64) (F_bits_r0 : Fld Z h0 r0 "com/example/swapgraph/swapgraph/AllocationTable" "bits" "I" (.int w6)) (F_fieldMask_r0 : Fld Z h0 r0 "com/example/swapgraph/swapgraph/AllocationTable" "fieldMask" "J" (.long w7)) (hne_r0_r1 : r0 ≠ r1) (g_r1 : n0 ≤ r1) :
    MetFree l (⟨"com/example/swapgraph/swapgraph/AllocationTable", "set", "([JII)V"⟩ : MethodName) (head1 (Jvm.Cond.code (⟨"com/example/swapgraph/swapgraph/AllocationTable", "set", "([JII)V"⟩ : MethodName) prog_2_method_7_code 6 none :: ws) ({ frames := 0, cells := 0, slots := 0, locals := 0 } : Room)) (fun a U => a = #[(.ref r0), (.ref r1), (.int p2), (.int p3)] ∧ Z.Warmed39 U.vm ∧ U.heap = h0) (fun _ _ _ _ _ => True) (fun _ U o U' => ∃ v L, o = .returned v ∧ Q6 Z r0 r1 p2 p3 f pw w6 w7 h0 n0 v U'.heap L ∧ FrameEnd U o U' L ({ frames := 0, cells := 0, slots := 0, locals := 0 } : Room).cells ({ frames := 0, cells := 0, slots := 0, locals := 0 } : Room).slots) := by
  refine MetFree.of_bodySF (plainFor_of_name pn3) hisR ?_
  intro p e s m args below meth c s₁ Bd hml0 hP hK
  obtain ⟨rfl, hZ, hh⟩ := hP
  have hx := Bd.exec
  have hby := Bd.bytes
  have hml : c.maxLocals = 6 := hml0
  have hown : s.vm.findClass "com/example/swapgraph/swapgraph/AllocationTable" = some m.cls := findClass_of_methodNamed Bd.named
  have hnm := (name_of_methodNamed Bd.named Bd.method).1
  have X0 : Stand p l e ({ frames := 0, cells := 0, slots := 0, locals := 0 } : Room) s m #[(.ref r0), (.ref r1), (.int p2), (.int p3)] below meth c s₁ [] 0 0 := Stand.of_body Bd
  have e0 : s₁.heap = h0 := by rw [← hh, Bd.state]; rfl
  have N0 := Fr.nil n0
  have K0 : Keep h0 h0 [r1] := Keep.refl h0 _
  show own_Go p e below s (Q6 Z r0 r1 p2 p3 f pw w6 w7 h0 n0) ({ frames := 0, cells := 0, slots := 0, locals := 0 } : Room).cells ({ frames := 0, cells := 0, slots := 0, locals := 0 } : Room).slots (s₁.setTop (entryFrame m #[(.ref r0), (.ref r1), (.int p2), (.int p3)] 6))
  refine own_go (fun t k => castTop (ef_6 m r0 r1 p2 p3) k) ?_
  obtain ⟨v1, hv1⟩ : ∃ z : Int32, z = (p2 - (1 : Int32)) := ⟨_, rfl⟩
  obtain ⟨T101, X101, e101, st101⟩ := getF X0 hx hZ hown (host := "") (Or.inl (hw _ (List.mem_of_getElem? (i := 24) rfl))) Via.refl e0 F_perWord_r0 (g := (mkF m 8 #[.val (.ref r0), .val (.ref r1), .val (.int p2), .val (.int p3), .val (.int v1), .unset] [(.ref r0), (.int v1)])) rfl rfl (hb hby d6_8)
  have hnz11_102 : ¬ (pw = (0 : Int32)) := hp0
  obtain ⟨T103, X103, e103, st103⟩ := getF X101 hx hZ hown (host := "") (Or.inl (hw _ (List.mem_of_getElem? (i := 22) rfl))) Via.refl e101 F_bits_r0 (g := (mkF m 13 #[.val (.ref r0), .val (.ref r1), .val (.int p2), .val (.int p3), .val (.int v1), .unset] [(.ref r0), (.int (v1 % pw))])) rfl rfl (hb hby d6_13)
  obtain ⟨v2, hv2⟩ : ∃ z : Int32, z = ((v1 % pw) * w6) := ⟨_, rfl⟩
  obtain ⟨T104, X104, e104, st104⟩ := getF X103 hx hZ hown (host := "") (Or.inl (hw _ (List.mem_of_getElem? (i := 24) rfl))) Via.refl e103 F_perWord_r0 (g := (mkF m 23 #[.val (.ref r0), .val (.ref r1), .val (.int p2), .val (.int p3), .val (.int v1), .val (.int v2)] [(.ref r0), (.int v1), (.ref r1)])) rfl rfl (hb hby d6_23)
  have hnz26_105 : ¬ (pw = (0 : Int32)) := hp0
  obtain ⟨T106, X106, e106, st106⟩ := getF X104 hx hZ hown (host := "") (Or.inl (hw _ (List.mem_of_getElem? (i := 24) rfl))) Via.refl e104 F_perWord_r0 (g := (mkF m 31 #[.val (.ref r0), .val (.ref r1), .val (.int p2), .val (.int p3), .val (.int v1), .val (.int v2)] [(.ref r0), (.int v1), (.ref r1), (.int (v1 / pw)), (.ref r1)])) rfl rfl (hb hby d6_31)
  have hnz34_107 : ¬ (pw = (0 : Int32)) := hp0
  obtain ⟨v3, hv3⟩ : ∃ z : Int32, z = (v1 / pw) := ⟨_, rfl⟩
  have hin35_108 : ¬ v3 < 0 ∧ v3.toNatClampNeg < 64 := by rw [hv3, hv1]; exact hin
  obtain ⟨T109, X109, e109, st109⟩ := getF X106 hx hZ hown (host := "") (Or.inl (hw _ (List.mem_of_getElem? (i := 28) rfl))) Via.refl e106 F_fieldMask_r0 (g := (mkF m 37 #[.val (.ref r0), .val (.ref r1), .val (.int p2), .val (.int p3), .val (.int v1), .val (.int v2)] [(.ref r0), (.long (f v3.toNatClampNeg)), (.int v3), (.ref r1)])) rfl rfl (hb hby d6_37)
  obtain ⟨v4, hv4⟩ : ∃ z : Int64, z = (((f v3.toNatClampNeg) &&& ((w7 <<< (v2 &&& 0x3f).toInt64) ^^^ (-1 : Int64))) ||| (((p3 - (1 : Int32)).toInt64) <<< (v2 &&& 0x3f).toInt64)) := ⟨_, rfl⟩
  have hin56_110 : ¬ v3 < 0 ∧ v3.toNatClampNeg < 64 := by rw [hv3, hv1]; exact hin
  obtain ⟨T111, h111, X111, e111, W111, B111, st111⟩ := own_stJ X109 hx hZ e109 A_r1 (j := v3) (x := v4) hin56_110 (g := (mkF m 56 #[.val (.ref r0), .val (.ref r1), .val (.int p2), .val (.int p3), .val (.int v1), .val (.int v2)] [(.long v4), (.int v3), (.ref r1)])) rfl rfl (hb hby d6_56)
  obtain ⟨v5, hv5⟩ : ∃ z : Nat → Int64, z = (own_up f (v3.toNatClampNeg) v4) := ⟨_, rfl⟩
  have B111n : own_AJ Z h111 r1 .long 64 v5 := by rw [hv5]; exact B111
  have F112 := F_perWord_r0.other W111 (Or.inl hne_r0_r1)
  have F113 := F_bits_r0.other W111 (Or.inl hne_r0_r1)
  have F114 := F_fieldMask_r0.other W111 (Or.inl hne_r0_r1)
  have Z115 : n0 ≤ h111.size := Nat.le_trans Z0 (Keep.of_wr W111).1
  have K116 : Keep h0 h111 [r1] := K0.wr W111 (Or.inl (List.mem_of_getElem? (i := 0) rfl))
  have N117 := Fr.snoc X111 N0 g_r1
  have hgo118 : ∀ t, Steps p.tables e below (T111.setTop (mkF m 57 #[.val (.ref r0), .val (.ref r1), .val (.int p2), .val (.int p3), .val (.int v1), .val (.int v2)] [])) t → Steps p.tables e below (s₁.setTop (mkF m 0 #[.val (.ref r0), .val (.ref r1), .val (.int p2), .val (.int p3), .unset, .unset] [])) t := by
    intro t kt
    show Steps p.tables e below (s₁.setTop (mkF m 0 #[.val (.ref r0), .val (.ref r1), .val (.int p2), .val (.int p3), .unset, .unset] [])) _
    refine XS.iloadN X0.here hx rfl (hb hby d6_0) rfl ?_
    show Steps p.tables e below (s₁.setTop (mkF m 1 #[.val (.ref r0), .val (.ref r1), .val (.int p2), .val (.int p3), .unset, .unset] [(.int p2)])) _
    refine XS.iconst X0.here hx rfl (hb hby d6_1) ?_
    show Steps p.tables e below (s₁.setTop (mkF m 2 #[.val (.ref r0), .val (.ref r1), .val (.int p2), .val (.int p3), .unset, .unset] [(.int (1 : Int32)), (.int p2)])) _
    refine XS.isub X0.here hx rfl (hb hby d6_2) rfl ?_
    show Steps p.tables e below (s₁.setTop (mkF m 3 #[.val (.ref r0), .val (.ref r1), .val (.int p2), .val (.int p3), .unset, .unset] [(.int (p2 - (1 : Int32)))])) _
    rw [← hv1]
    show Steps p.tables e below (s₁.setTop (mkF m 3 #[.val (.ref r0), .val (.ref r1), .val (.int p2), .val (.int p3), .unset, .unset] [(.int v1)])) _
    refine XS.istore X0.here hx rfl (hb hby d6_3) rfl (l' := #[.val (.ref r0), .val (.ref r1), .val (.int p2), .val (.int p3), .val (.int v1), .unset]) rfl ?_
    show Steps p.tables e below (s₁.setTop (mkF m 5 #[.val (.ref r0), .val (.ref r1), .val (.int p2), .val (.int p3), .val (.int v1), .unset] [])) _
    refine XS.iload X0.here hx rfl (hb hby d6_5) rfl ?_
    show Steps p.tables e below (s₁.setTop (mkF m 7 #[.val (.ref r0), .val (.ref r1), .val (.int p2), .val (.int p3), .val (.int v1), .unset] [(.int v1)])) _
    refine XS.aloadN X0.here hx rfl (hb hby d6_7) rfl rfl ?_
    show Steps p.tables e below (s₁.setTop (mkF m 8 #[.val (.ref r0), .val (.ref r1), .val (.int p2), .val (.int p3), .val (.int v1), .unset] [(.ref r0), (.int v1)])) _
    refine st101 _ ?_
    show Steps p.tables e below (T101.setTop (mkF m 11 #[.val (.ref r0), .val (.ref r1), .val (.int p2), .val (.int p3), .val (.int v1), .unset] [(.int pw), (.int v1)])) _
    refine XS.irem X101.here hx rfl (hb hby d6_11) rfl hnz11_102 ?_
    rw [own_remI v1 pw]
    show Steps p.tables e below (T101.setTop (mkF m 12 #[.val (.ref r0), .val (.ref r1), .val (.int p2), .val (.int p3), .val (.int v1), .unset] [(.int (v1 % pw))])) _
    refine XS.aloadN X101.here hx rfl (hb hby d6_12) rfl rfl ?_
    show Steps p.tables e below (T101.setTop (mkF m 13 #[.val (.ref r0), .val (.ref r1), .val (.int p2), .val (.int p3), .val (.int v1), .unset] [(.ref r0), (.int (v1 % pw))])) _
    refine st103 _ ?_
    show Steps p.tables e below (T103.setTop (mkF m 16 #[.val (.ref r0), .val (.ref r1), .val (.int p2), .val (.int p3), .val (.int v1), .unset] [(.int w6), (.int (v1 % pw))])) _
    refine XS.imul X103.here hx rfl (hb hby d6_16) rfl ?_
    show Steps p.tables e below (T103.setTop (mkF m 17 #[.val (.ref r0), .val (.ref r1), .val (.int p2), .val (.int p3), .val (.int v1), .unset] [(.int ((v1 % pw) * w6))])) _
    rw [← hv2]
    show Steps p.tables e below (T103.setTop (mkF m 17 #[.val (.ref r0), .val (.ref r1), .val (.int p2), .val (.int p3), .val (.int v1), .unset] [(.int v2)])) _
    refine XS.istore X103.here hx rfl (hb hby d6_17) rfl (l' := #[.val (.ref r0), .val (.ref r1), .val (.int p2), .val (.int p3), .val (.int v1), .val (.int v2)]) rfl ?_
    show Steps p.tables e below (T103.setTop (mkF m 19 #[.val (.ref r0), .val (.ref r1), .val (.int p2), .val (.int p3), .val (.int v1), .val (.int v2)] [])) _
    refine XS.aloadN X103.here hx rfl (hb hby d6_19) rfl rfl ?_
    show Steps p.tables e below (T103.setTop (mkF m 20 #[.val (.ref r0), .val (.ref r1), .val (.int p2), .val (.int p3), .val (.int v1), .val (.int v2)] [(.ref r1)])) _
    refine XS.iload X103.here hx rfl (hb hby d6_20) rfl ?_
    show Steps p.tables e below (T103.setTop (mkF m 22 #[.val (.ref r0), .val (.ref r1), .val (.int p2), .val (.int p3), .val (.int v1), .val (.int v2)] [(.int v1), (.ref r1)])) _
    refine XS.aloadN X103.here hx rfl (hb hby d6_22) rfl rfl ?_
    show Steps p.tables e below (T103.setTop (mkF m 23 #[.val (.ref r0), .val (.ref r1), .val (.int p2), .val (.int p3), .val (.int v1), .val (.int v2)] [(.ref r0), (.int v1), (.ref r1)])) _
    refine st104 _ ?_
    show Steps p.tables e below (T104.setTop (mkF m 26 #[.val (.ref r0), .val (.ref r1), .val (.int p2), .val (.int p3), .val (.int v1), .val (.int v2)] [(.int pw), (.int v1), (.ref r1)])) _
    refine XS.idiv X104.here hx rfl (hb hby d6_26) rfl hnz26_105 ?_
    show Steps p.tables e below (T104.setTop (mkF m 27 #[.val (.ref r0), .val (.ref r1), .val (.int p2), .val (.int p3), .val (.int v1), .val (.int v2)] [(.int (v1 / pw)), (.ref r1)])) _
    refine XS.aloadN X104.here hx rfl (hb hby d6_27) rfl rfl ?_
    show Steps p.tables e below (T104.setTop (mkF m 28 #[.val (.ref r0), .val (.ref r1), .val (.int p2), .val (.int p3), .val (.int v1), .val (.int v2)] [(.ref r1), (.int (v1 / pw)), (.ref r1)])) _
    refine XS.iload X104.here hx rfl (hb hby d6_28) rfl ?_
    show Steps p.tables e below (T104.setTop (mkF m 30 #[.val (.ref r0), .val (.ref r1), .val (.int p2), .val (.int p3), .val (.int v1), .val (.int v2)] [(.int v1), (.ref r1), (.int (v1 / pw)), (.ref r1)])) _
    refine XS.aloadN X104.here hx rfl (hb hby d6_30) rfl rfl ?_
    show Steps p.tables e below (T104.setTop (mkF m 31 #[.val (.ref r0), .val (.ref r1), .val (.int p2), .val (.int p3), .val (.int v1), .val (.int v2)] [(.ref r0), (.int v1), (.ref r1), (.int (v1 / pw)), (.ref r1)])) _
    refine st106 _ ?_
    show Steps p.tables e below (T106.setTop (mkF m 34 #[.val (.ref r0), .val (.ref r1), .val (.int p2), .val (.int p3), .val (.int v1), .val (.int v2)] [(.int pw), (.int v1), (.ref r1), (.int (v1 / pw)), (.ref r1)])) _
    refine XS.idiv X106.here hx rfl (hb hby d6_34) rfl hnz34_107 ?_
    show Steps p.tables e below (T106.setTop (mkF m 35 #[.val (.ref r0), .val (.ref r1), .val (.int p2), .val (.int p3), .val (.int v1), .val (.int v2)] [(.int (v1 / pw)), (.ref r1), (.int (v1 / pw)), (.ref r1)])) _
    rw [← hv3]
    refine own_ldJ X106 hx hZ e106 A_r1 (j := v3) hin35_108 (g := (mkF m 35 #[.val (.ref r0), .val (.ref r1), .val (.int p2), .val (.int p3), .val (.int v1), .val (.int v2)] [(.int v3), (.ref r1), (.int v3), (.ref r1)])) rfl rfl (hb hby d6_35) _ ?_
    show Steps p.tables e below (T106.setTop (mkF m 36 #[.val (.ref r0), .val (.ref r1), .val (.int p2), .val (.int p3), .val (.int v1), .val (.int v2)] [(.long (f v3.toNatClampNeg)), (.int v3), (.ref r1)])) _
    refine XS.aloadN X106.here hx rfl (hb hby d6_36) rfl rfl ?_
    show Steps p.tables e below (T106.setTop (mkF m 37 #[.val (.ref r0), .val (.ref r1), .val (.int p2), .val (.int p3), .val (.int v1), .val (.int v2)] [(.ref r0), (.long (f v3.toNatClampNeg)), (.int v3), (.ref r1)])) _
    refine st109 _ ?_
    show Steps p.tables e below (T109.setTop (mkF m 40 #[.val (.ref r0), .val (.ref r1), .val (.int p2), .val (.int p3), .val (.int v1), .val (.int v2)] [(.long w7), (.long (f v3.toNatClampNeg)), (.int v3), (.ref r1)])) _
    refine XS.iload X109.here hx rfl (hb hby d6_40) rfl ?_
    show Steps p.tables e below (T109.setTop (mkF m 42 #[.val (.ref r0), .val (.ref r1), .val (.int p2), .val (.int p3), .val (.int v1), .val (.int v2)] [(.int v2), (.long w7), (.long (f v3.toNatClampNeg)), (.int v3), (.ref r1)])) _
    refine XS.lshl X109.here hx rfl (hb hby d6_42) rfl ?_
    show Steps p.tables e below (T109.setTop (mkF m 43 #[.val (.ref r0), .val (.ref r1), .val (.int p2), .val (.int p3), .val (.int v1), .val (.int v2)] [(.long (w7 <<< (v2 &&& 0x3f).toInt64)), (.long (f v3.toNatClampNeg)), (.int v3), (.ref r1)])) _
    refine X109.ldc2Long hx hown (mvT hZ (hw _ (List.mem_of_getElem? (i := 47) rfl))) (g := (mkF m 43 #[.val (.ref r0), .val (.ref r1), .val (.int p2), .val (.int p3), .val (.int v1), .val (.int v2)] [(.long (w7 <<< (v2 &&& 0x3f).toInt64)), (.long (f v3.toNatClampNeg)), (.int v3), (.ref r1)])) rfl (hb hby d6_43) _ ?_
    show Steps p.tables e below (T109.setTop (mkF m 46 #[.val (.ref r0), .val (.ref r1), .val (.int p2), .val (.int p3), .val (.int v1), .val (.int v2)] [(.long (-1 : Int64)), (.long (w7 <<< (v2 &&& 0x3f).toInt64)), (.long (f v3.toNatClampNeg)), (.int v3), (.ref r1)])) _
    refine XS.lxor X109.here hx rfl (hb hby d6_46) rfl ?_
    show Steps p.tables e below (T109.setTop (mkF m 47 #[.val (.ref r0), .val (.ref r1), .val (.int p2), .val (.int p3), .val (.int v1), .val (.int v2)] [(.long ((w7 <<< (v2 &&& 0x3f).toInt64) ^^^ (-1 : Int64))), (.long (f v3.toNatClampNeg)), (.int v3), (.ref r1)])) _
    refine XS.land X109.here hx rfl (hb hby d6_47) rfl ?_
    show Steps p.tables e below (T109.setTop (mkF m 48 #[.val (.ref r0), .val (.ref r1), .val (.int p2), .val (.int p3), .val (.int v1), .val (.int v2)] [(.long ((f v3.toNatClampNeg) &&& ((w7 <<< (v2 &&& 0x3f).toInt64) ^^^ (-1 : Int64)))), (.int v3), (.ref r1)])) _
    refine XS.iloadN X109.here hx rfl (hb hby d6_48) rfl ?_
    show Steps p.tables e below (T109.setTop (mkF m 49 #[.val (.ref r0), .val (.ref r1), .val (.int p2), .val (.int p3), .val (.int v1), .val (.int v2)] [(.int p3), (.long ((f v3.toNatClampNeg) &&& ((w7 <<< (v2 &&& 0x3f).toInt64) ^^^ (-1 : Int64)))), (.int v3), (.ref r1)])) _
    refine XS.iconst X109.here hx rfl (hb hby d6_49) ?_
    show Steps p.tables e below (T109.setTop (mkF m 50 #[.val (.ref r0), .val (.ref r1), .val (.int p2), .val (.int p3), .val (.int v1), .val (.int v2)] [(.int (1 : Int32)), (.int p3), (.long ((f v3.toNatClampNeg) &&& ((w7 <<< (v2 &&& 0x3f).toInt64) ^^^ (-1 : Int64)))), (.int v3), (.ref r1)])) _
    refine XS.isub X109.here hx rfl (hb hby d6_50) rfl ?_
    show Steps p.tables e below (T109.setTop (mkF m 51 #[.val (.ref r0), .val (.ref r1), .val (.int p2), .val (.int p3), .val (.int v1), .val (.int v2)] [(.int (p3 - (1 : Int32))), (.long ((f v3.toNatClampNeg) &&& ((w7 <<< (v2 &&& 0x3f).toInt64) ^^^ (-1 : Int64)))), (.int v3), (.ref r1)])) _
    refine XS.i2l X109.here hx rfl (hb hby d6_51) rfl ?_
    show Steps p.tables e below (T109.setTop (mkF m 52 #[.val (.ref r0), .val (.ref r1), .val (.int p2), .val (.int p3), .val (.int v1), .val (.int v2)] [(.long ((p3 - (1 : Int32)).toInt64)), (.long ((f v3.toNatClampNeg) &&& ((w7 <<< (v2 &&& 0x3f).toInt64) ^^^ (-1 : Int64)))), (.int v3), (.ref r1)])) _
    refine XS.iload X109.here hx rfl (hb hby d6_52) rfl ?_
    show Steps p.tables e below (T109.setTop (mkF m 54 #[.val (.ref r0), .val (.ref r1), .val (.int p2), .val (.int p3), .val (.int v1), .val (.int v2)] [(.int v2), (.long ((p3 - (1 : Int32)).toInt64)), (.long ((f v3.toNatClampNeg) &&& ((w7 <<< (v2 &&& 0x3f).toInt64) ^^^ (-1 : Int64)))), (.int v3), (.ref r1)])) _
    refine XS.lshl X109.here hx rfl (hb hby d6_54) rfl ?_
    show Steps p.tables e below (T109.setTop (mkF m 55 #[.val (.ref r0), .val (.ref r1), .val (.int p2), .val (.int p3), .val (.int v1), .val (.int v2)] [(.long (((p3 - (1 : Int32)).toInt64) <<< (v2 &&& 0x3f).toInt64)), (.long ((f v3.toNatClampNeg) &&& ((w7 <<< (v2 &&& 0x3f).toInt64) ^^^ (-1 : Int64)))), (.int v3), (.ref r1)])) _
    refine XS.lor X109.here hx rfl (hb hby d6_55) rfl ?_
    show Steps p.tables e below (T109.setTop (mkF m 56 #[.val (.ref r0), .val (.ref r1), .val (.int p2), .val (.int p3), .val (.int v1), .val (.int v2)] [(.long (((f v3.toNatClampNeg) &&& ((w7 <<< (v2 &&& 0x3f).toInt64) ^^^ (-1 : Int64))) ||| (((p3 - (1 : Int32)).toInt64) <<< (v2 &&& 0x3f).toInt64))), (.int v3), (.ref r1)])) _
    rw [← hv4]
    refine st111 _ ?_
    exact kt
  refine own_go hgo118 ?_
  exact own_retV X111 hx Bd.returns Bd.notSynchronized (hb hby d6_57) (by decide) (by decide) (by rw [e111]; exact ⟨(by rfl), N117, K116, (by subst hv5 hv4 hv3 hv2 hv1; exact B111n)⟩)
theorem d7_0 : decode prog_2_method_9_code 0 = .ok (.iload_n 2, 1) := by decide +kernel
theorem d7_1 : decode prog_2_method_9_code 1 = .ok (.iconst 1, 1) := by decide +kernel
theorem d7_2 : decode prog_2_method_9_code 2 = .ok (.isub, 1) := by decide +kernel
theorem d7_3 : decode prog_2_method_9_code 3 = .ok (.istore_n 3, 1) := by decide +kernel
theorem d7_4 : decode prog_2_method_9_code 4 = .ok (.aload_n 1, 1) := by decide +kernel
theorem d7_5 : decode prog_2_method_9_code 5 = .ok (.iload_n 3, 1) := by decide +kernel
theorem d7_6 : decode prog_2_method_9_code 6 = .ok (.aload_n 0, 1) := by decide +kernel
theorem d7_7 : decode prog_2_method_9_code 7 = .ok (.getfield 31, 3) := by decide +kernel
theorem d7_10 : decode prog_2_method_9_code 10 = .ok (.idiv, 1) := by decide +kernel
theorem d7_11 : decode prog_2_method_9_code 11 = .ok (.laload, 1) := by decide +kernel
theorem d7_12 : decode prog_2_method_9_code 12 = .ok (.iload_n 3, 1) := by decide +kernel
theorem d7_13 : decode prog_2_method_9_code 13 = .ok (.aload_n 0, 1) := by decide +kernel
theorem d7_14 : decode prog_2_method_9_code 14 = .ok (.getfield 31, 3) := by decide +kernel
theorem d7_17 : decode prog_2_method_9_code 17 = .ok (.irem, 1) := by decide +kernel
theorem d7_18 : decode prog_2_method_9_code 18 = .ok (.aload_n 0, 1) := by decide +kernel
theorem d7_19 : decode prog_2_method_9_code 19 = .ok (.getfield 28, 3) := by decide +kernel
theorem d7_22 : decode prog_2_method_9_code 22 = .ok (.imul, 1) := by decide +kernel
theorem d7_23 : decode prog_2_method_9_code 23 = .ok (.lushr, 1) := by decide +kernel
theorem d7_24 : decode prog_2_method_9_code 24 = .ok (.aload_n 0, 1) := by decide +kernel
theorem d7_25 : decode prog_2_method_9_code 25 = .ok (.getfield 37, 3) := by decide +kernel
theorem d7_28 : decode prog_2_method_9_code 28 = .ok (.land, 1) := by decide +kernel
theorem d7_29 : decode prog_2_method_9_code 29 = .ok (.l2i, 1) := by decide +kernel
theorem d7_30 : decode prog_2_method_9_code 30 = .ok (.iconst 1, 1) := by decide +kernel
theorem d7_31 : decode prog_2_method_9_code 31 = .ok (.iadd, 1) := by decide +kernel
theorem d7_32 : decode prog_2_method_9_code 32 = .ok (.ireturn, 1) := by decide +kernel
theorem ef_7 (m : MethodId) (r0 : Addr) (r1 : Addr) (p2 : Int32) : entryFrame m #[(.ref r0), (.ref r1), (.int p2)] 4 = mkF m 0 #[.val (.ref r0), .val (.ref r1), .val (.int p2), .unset] [] := by (first | (simp [entryFrame, mkF, argsToLocals, Value.category]; done) | rfl)
def own_r7 (p2 : Int32) (f : Nat → Int64) (pw : Int32) (w5 : Int32) (w6 : Int64) : Int32 := ((((((f ((p2 - (1 : Int32)) / pw).toNatClampNeg).toUInt64 >>> ((((p2 - (1 : Int32)) % pw) * w5) &&& 0x3f).toInt64.toUInt64).toInt64) &&& w6).toInt32) + (1 : Int32))
def Q7 (Z : State) (r0 : Addr) (r1 : Addr) (p2 : Int32) (f : Nat → Int64) (pw : Int32) (w5 : Int32) (w6 : Int64) (h0 : Heap) (n0 : Nat) (v : Option Value) (h : Heap) (L : List Loc) : Prop := v = some (.int (own_r7 p2 f pw w5 w6)) ∧ Fr n0 L ∧ h = h0
set_option maxRecDepth 65536 in
set_option maxHeartbeats 40000000 in
theorem rm7 (l : Launch) (Z : State) (a0 : Array Value) (hw : ∀ d ∈ tables_1, d.before a0 Z = true) (ws : List Jvm.Cond) (r0 : Addr) (r1 : Addr) (p2 : Int32) (f : Nat → Int64) (pw : Int32) (w5 : Int32) (w6 : Int64) (h0 : Heap) (n0 : Nat) (Z0 : n0 ≤ h0.size) (A_r1 : own_AJ Z h0 r1 .long 64 f) (F_perWord_r0 : Fld Z h0 r0 "com/example/swapgraph/swapgraph/AllocationTable" "perWord" "I" (.int pw)) (hp0 : ¬ (pw = (0 : Int32))) (hin : ¬ ((p2 - (1 : Int32)) / pw) < 0 ∧ ((p2 - (1 : Int32)) / pw).toNatClampNeg < 64) (F_bits_r0 : Fld Z h0 r0 "com/example/swapgraph/swapgraph/AllocationTable" "bits" "I" (.int w5)) (F_fieldMask_r0 : Fld Z h0 r0 "com/example/swapgraph/swapgraph/AllocationTable" "fieldMask" "J" (.long w6)) :
    MetFree l (⟨"com/example/swapgraph/swapgraph/AllocationTable", "objectOf", "([JI)I"⟩ : MethodName) (head1 (Jvm.Cond.code (⟨"com/example/swapgraph/swapgraph/AllocationTable", "objectOf", "([JI)I"⟩ : MethodName) prog_2_method_9_code 4 (some .int) :: ws) ({ frames := 0, cells := 0, slots := 0, locals := 0 } : Room)) (fun a U => a = #[(.ref r0), (.ref r1), (.int p2)] ∧ Z.Warmed39 U.vm ∧ U.heap = h0) (fun _ _ _ _ _ => True) (fun _ U o U' => ∃ v L, o = .returned v ∧ Q7 Z r0 r1 p2 f pw w5 w6 h0 n0 v U'.heap L ∧ FrameEnd U o U' L ({ frames := 0, cells := 0, slots := 0, locals := 0 } : Room).cells ({ frames := 0, cells := 0, slots := 0, locals := 0 } : Room).slots) := by
  refine MetFree.of_bodySF (plainFor_of_name pn3) hisR ?_
  intro p e s m args below meth c s₁ Bd hml0 hP hK
  obtain ⟨rfl, hZ, hh⟩ := hP
  have hx := Bd.exec
  have hby := Bd.bytes
  have hml : c.maxLocals = 4 := hml0
  have hown : s.vm.findClass "com/example/swapgraph/swapgraph/AllocationTable" = some m.cls := findClass_of_methodNamed Bd.named
  have hnm := (name_of_methodNamed Bd.named Bd.method).1
  have X0 : Stand p l e ({ frames := 0, cells := 0, slots := 0, locals := 0 } : Room) s m #[(.ref r0), (.ref r1), (.int p2)] below meth c s₁ [] 0 0 := Stand.of_body Bd
  have e0 : s₁.heap = h0 := by rw [← hh, Bd.state]; rfl
  have N0 := Fr.nil n0
  have K0 : Keep h0 h0 [] := Keep.refl h0 _
  show own_Go p e below s (Q7 Z r0 r1 p2 f pw w5 w6 h0 n0) ({ frames := 0, cells := 0, slots := 0, locals := 0 } : Room).cells ({ frames := 0, cells := 0, slots := 0, locals := 0 } : Room).slots (s₁.setTop (entryFrame m #[(.ref r0), (.ref r1), (.int p2)] 4))
  refine own_go (fun t k => castTop (ef_7 m r0 r1 p2) k) ?_
  obtain ⟨v1, hv1⟩ : ∃ z : Int32, z = (p2 - (1 : Int32)) := ⟨_, rfl⟩
  obtain ⟨T101, X101, e101, st101⟩ := getF X0 hx hZ hown (host := "") (Or.inl (hw _ (List.mem_of_getElem? (i := 24) rfl))) Via.refl e0 F_perWord_r0 (g := (mkF m 7 #[.val (.ref r0), .val (.ref r1), .val (.int p2), .val (.int v1)] [(.ref r0), (.int v1), (.ref r1)])) rfl rfl (hb hby d7_7)
  have hnz10_102 : ¬ (pw = (0 : Int32)) := hp0
  obtain ⟨v2, hv2⟩ : ∃ z : Int32, z = (v1 / pw) := ⟨_, rfl⟩
  have hin11_103 : ¬ v2 < 0 ∧ v2.toNatClampNeg < 64 := by rw [hv2, hv1]; exact hin
  obtain ⟨T104, X104, e104, st104⟩ := getF X101 hx hZ hown (host := "") (Or.inl (hw _ (List.mem_of_getElem? (i := 24) rfl))) Via.refl e101 F_perWord_r0 (g := (mkF m 14 #[.val (.ref r0), .val (.ref r1), .val (.int p2), .val (.int v1)] [(.ref r0), (.int v1), (.long (f v2.toNatClampNeg))])) rfl rfl (hb hby d7_14)
  have hnz17_105 : ¬ (pw = (0 : Int32)) := hp0
  obtain ⟨T106, X106, e106, st106⟩ := getF X104 hx hZ hown (host := "") (Or.inl (hw _ (List.mem_of_getElem? (i := 22) rfl))) Via.refl e104 F_bits_r0 (g := (mkF m 19 #[.val (.ref r0), .val (.ref r1), .val (.int p2), .val (.int v1)] [(.ref r0), (.int (v1 % pw)), (.long (f v2.toNatClampNeg))])) rfl rfl (hb hby d7_19)
  obtain ⟨T107, X107, e107, st107⟩ := getF X106 hx hZ hown (host := "") (Or.inl (hw _ (List.mem_of_getElem? (i := 28) rfl))) Via.refl e106 F_fieldMask_r0 (g := (mkF m 25 #[.val (.ref r0), .val (.ref r1), .val (.int p2), .val (.int v1)] [(.ref r0), (.long (((f v2.toNatClampNeg).toUInt64 >>> (((v1 % pw) * w5) &&& 0x3f).toInt64.toUInt64).toInt64))])) rfl rfl (hb hby d7_25)
  obtain ⟨v3, hv3⟩ : ∃ z : Int32, z = ((((((f v2.toNatClampNeg).toUInt64 >>> (((v1 % pw) * w5) &&& 0x3f).toInt64.toUInt64).toInt64) &&& w6).toInt32) + (1 : Int32)) := ⟨_, rfl⟩
  have hgo108 : ∀ t, Steps p.tables e below (T107.setTop (mkF m 32 #[.val (.ref r0), .val (.ref r1), .val (.int p2), .val (.int v1)] [(.int v3)])) t → Steps p.tables e below (s₁.setTop (mkF m 0 #[.val (.ref r0), .val (.ref r1), .val (.int p2), .unset] [])) t := by
    intro t kt
    show Steps p.tables e below (s₁.setTop (mkF m 0 #[.val (.ref r0), .val (.ref r1), .val (.int p2), .unset] [])) _
    refine XS.iloadN X0.here hx rfl (hb hby d7_0) rfl ?_
    show Steps p.tables e below (s₁.setTop (mkF m 1 #[.val (.ref r0), .val (.ref r1), .val (.int p2), .unset] [(.int p2)])) _
    refine XS.iconst X0.here hx rfl (hb hby d7_1) ?_
    show Steps p.tables e below (s₁.setTop (mkF m 2 #[.val (.ref r0), .val (.ref r1), .val (.int p2), .unset] [(.int (1 : Int32)), (.int p2)])) _
    refine XS.isub X0.here hx rfl (hb hby d7_2) rfl ?_
    show Steps p.tables e below (s₁.setTop (mkF m 3 #[.val (.ref r0), .val (.ref r1), .val (.int p2), .unset] [(.int (p2 - (1 : Int32)))])) _
    rw [← hv1]
    show Steps p.tables e below (s₁.setTop (mkF m 3 #[.val (.ref r0), .val (.ref r1), .val (.int p2), .unset] [(.int v1)])) _
    refine XS.istoreN X0.here hx rfl (hb hby d7_3) rfl (l' := #[.val (.ref r0), .val (.ref r1), .val (.int p2), .val (.int v1)]) rfl ?_
    show Steps p.tables e below (s₁.setTop (mkF m 4 #[.val (.ref r0), .val (.ref r1), .val (.int p2), .val (.int v1)] [])) _
    refine XS.aloadN X0.here hx rfl (hb hby d7_4) rfl rfl ?_
    show Steps p.tables e below (s₁.setTop (mkF m 5 #[.val (.ref r0), .val (.ref r1), .val (.int p2), .val (.int v1)] [(.ref r1)])) _
    refine XS.iloadN X0.here hx rfl (hb hby d7_5) rfl ?_
    show Steps p.tables e below (s₁.setTop (mkF m 6 #[.val (.ref r0), .val (.ref r1), .val (.int p2), .val (.int v1)] [(.int v1), (.ref r1)])) _
    refine XS.aloadN X0.here hx rfl (hb hby d7_6) rfl rfl ?_
    show Steps p.tables e below (s₁.setTop (mkF m 7 #[.val (.ref r0), .val (.ref r1), .val (.int p2), .val (.int v1)] [(.ref r0), (.int v1), (.ref r1)])) _
    refine st101 _ ?_
    show Steps p.tables e below (T101.setTop (mkF m 10 #[.val (.ref r0), .val (.ref r1), .val (.int p2), .val (.int v1)] [(.int pw), (.int v1), (.ref r1)])) _
    refine XS.idiv X101.here hx rfl (hb hby d7_10) rfl hnz10_102 ?_
    show Steps p.tables e below (T101.setTop (mkF m 11 #[.val (.ref r0), .val (.ref r1), .val (.int p2), .val (.int v1)] [(.int (v1 / pw)), (.ref r1)])) _
    rw [← hv2]
    refine own_ldJ X101 hx hZ e101 A_r1 (j := v2) hin11_103 (g := (mkF m 11 #[.val (.ref r0), .val (.ref r1), .val (.int p2), .val (.int v1)] [(.int v2), (.ref r1)])) rfl rfl (hb hby d7_11) _ ?_
    show Steps p.tables e below (T101.setTop (mkF m 12 #[.val (.ref r0), .val (.ref r1), .val (.int p2), .val (.int v1)] [(.long (f v2.toNatClampNeg))])) _
    refine XS.iloadN X101.here hx rfl (hb hby d7_12) rfl ?_
    show Steps p.tables e below (T101.setTop (mkF m 13 #[.val (.ref r0), .val (.ref r1), .val (.int p2), .val (.int v1)] [(.int v1), (.long (f v2.toNatClampNeg))])) _
    refine XS.aloadN X101.here hx rfl (hb hby d7_13) rfl rfl ?_
    show Steps p.tables e below (T101.setTop (mkF m 14 #[.val (.ref r0), .val (.ref r1), .val (.int p2), .val (.int v1)] [(.ref r0), (.int v1), (.long (f v2.toNatClampNeg))])) _
    refine st104 _ ?_
    show Steps p.tables e below (T104.setTop (mkF m 17 #[.val (.ref r0), .val (.ref r1), .val (.int p2), .val (.int v1)] [(.int pw), (.int v1), (.long (f v2.toNatClampNeg))])) _
    refine XS.irem X104.here hx rfl (hb hby d7_17) rfl hnz17_105 ?_
    rw [own_remI v1 pw]
    show Steps p.tables e below (T104.setTop (mkF m 18 #[.val (.ref r0), .val (.ref r1), .val (.int p2), .val (.int v1)] [(.int (v1 % pw)), (.long (f v2.toNatClampNeg))])) _
    refine XS.aloadN X104.here hx rfl (hb hby d7_18) rfl rfl ?_
    show Steps p.tables e below (T104.setTop (mkF m 19 #[.val (.ref r0), .val (.ref r1), .val (.int p2), .val (.int v1)] [(.ref r0), (.int (v1 % pw)), (.long (f v2.toNatClampNeg))])) _
    refine st106 _ ?_
    show Steps p.tables e below (T106.setTop (mkF m 22 #[.val (.ref r0), .val (.ref r1), .val (.int p2), .val (.int v1)] [(.int w5), (.int (v1 % pw)), (.long (f v2.toNatClampNeg))])) _
    refine XS.imul X106.here hx rfl (hb hby d7_22) rfl ?_
    show Steps p.tables e below (T106.setTop (mkF m 23 #[.val (.ref r0), .val (.ref r1), .val (.int p2), .val (.int v1)] [(.int ((v1 % pw) * w5)), (.long (f v2.toNatClampNeg))])) _
    refine XS.lushr X106.here hx rfl (hb hby d7_23) rfl ?_
    show Steps p.tables e below (T106.setTop (mkF m 24 #[.val (.ref r0), .val (.ref r1), .val (.int p2), .val (.int v1)] [(.long (((f v2.toNatClampNeg).toUInt64 >>> (((v1 % pw) * w5) &&& 0x3f).toInt64.toUInt64).toInt64))])) _
    refine XS.aloadN X106.here hx rfl (hb hby d7_24) rfl rfl ?_
    show Steps p.tables e below (T106.setTop (mkF m 25 #[.val (.ref r0), .val (.ref r1), .val (.int p2), .val (.int v1)] [(.ref r0), (.long (((f v2.toNatClampNeg).toUInt64 >>> (((v1 % pw) * w5) &&& 0x3f).toInt64.toUInt64).toInt64))])) _
    refine st107 _ ?_
    show Steps p.tables e below (T107.setTop (mkF m 28 #[.val (.ref r0), .val (.ref r1), .val (.int p2), .val (.int v1)] [(.long w6), (.long (((f v2.toNatClampNeg).toUInt64 >>> (((v1 % pw) * w5) &&& 0x3f).toInt64.toUInt64).toInt64))])) _
    refine XS.land X107.here hx rfl (hb hby d7_28) rfl ?_
    show Steps p.tables e below (T107.setTop (mkF m 29 #[.val (.ref r0), .val (.ref r1), .val (.int p2), .val (.int v1)] [(.long ((((f v2.toNatClampNeg).toUInt64 >>> (((v1 % pw) * w5) &&& 0x3f).toInt64.toUInt64).toInt64) &&& w6))])) _
    refine XS.l2i X107.here hx rfl (hb hby d7_29) rfl ?_
    show Steps p.tables e below (T107.setTop (mkF m 30 #[.val (.ref r0), .val (.ref r1), .val (.int p2), .val (.int v1)] [(.int (((((f v2.toNatClampNeg).toUInt64 >>> (((v1 % pw) * w5) &&& 0x3f).toInt64.toUInt64).toInt64) &&& w6).toInt32))])) _
    refine XS.iconst X107.here hx rfl (hb hby d7_30) ?_
    show Steps p.tables e below (T107.setTop (mkF m 31 #[.val (.ref r0), .val (.ref r1), .val (.int p2), .val (.int v1)] [(.int (1 : Int32)), (.int (((((f v2.toNatClampNeg).toUInt64 >>> (((v1 % pw) * w5) &&& 0x3f).toInt64.toUInt64).toInt64) &&& w6).toInt32))])) _
    refine XS.iadd X107.here hx rfl (hb hby d7_31) rfl ?_
    rw [← hv3]
    exact kt
  refine own_go hgo108 ?_
  exact own_retI X107 hx Bd.returns Bd.notSynchronized (hb hby d7_32) (by decide) (by decide) (by rw [e107]; exact ⟨(by subst hv3 hv2 hv1; rw [own_r7]), N0, rfl⟩)
theorem own_ti {x : Int32} (h : x.toBitVec.toNat < 2147483648) : x.toInt = (x.toBitVec.toNat : Int) := by
  show x.toBitVec.toInt = _
  rw [BitVec.toInt_eq_toNat_cond, if_pos (by omega)]
theorem own_tn {x : Int32} (h : 0 ≤ x.toInt) : x.toInt = (x.toBitVec.toNat : Int) ∧ x.toBitVec.toNat < 2147483648 := by
  have e : x.toInt = x.toBitVec.toInt := rfl
  have c := BitVec.toInt_eq_toNat_cond x.toBitVec
  have l := x.toBitVec.isLt
  rw [e] at h ⊢
  rw [c] at h ⊢
  split at h
  · rename_i q
    rw [if_pos q]; omega
  · omega
theorem own_andn (x y : Int32) : (x &&& y).toBitVec.toNat = x.toBitVec.toNat &&& y.toBitVec.toNat := by rw [Int32.toBitVec_and, BitVec.toNat_and]
theorem own_orn (x y : Int32) : (x ||| y).toBitVec.toNat = x.toBitVec.toNat ||| y.toBitVec.toNat := by rw [Int32.toBitVec_or, BitVec.toNat_or]
theorem own_shln {x k : Int32} {n : Nat} (hk : (k.toBitVec.smod 32).toNat = n) (h : x.toBitVec.toNat * 2 ^ n < 2 ^ 32) : (x <<< k).toBitVec.toNat = x.toBitVec.toNat * 2 ^ n := by
  rw [Int32.toBitVec_shiftLeft, BitVec.shiftLeft_eq', BitVec.toNat_shiftLeft, hk, Nat.shiftLeft_eq, Nat.mod_eq_of_lt h]
theorem own_mask {x m : Int32} {k : Nat} (hm : m.toBitVec.toNat = 2 ^ k - 1) : (x &&& m).toBitVec.toNat = x.toBitVec.toNat % 2 ^ k := by
  rw [own_andn, hm, Nat.and_two_pow_sub_one_eq_mod]
theorem own_oradd {a b k : Nat} (hb : b < 2 ^ k) : (a * 2 ^ k) ||| b = a * 2 ^ k + b := by
  rw [Nat.mul_comm, ← Nat.two_pow_add_eq_or_of_lt hb]
theorem own_sh6 {k : Int32} (h0 : 0 ≤ k.toInt) (h1 : k.toInt < 64) : ((k &&& 0x3f).toInt64.toBitVec.smod 64).toNat = k.toInt.toNat ∧ ((k &&& 0x3f).toInt64.toUInt64.toBitVec % 64).toNat = k.toInt.toNat := by
  have a : ∀ n : Fin 64, (((Int32.ofNat n.val) &&& 0x3f).toInt64.toBitVec.smod 64).toNat = n.val ∧ (((Int32.ofNat n.val) &&& 0x3f).toInt64.toUInt64.toBitVec % 64).toNat = n.val := by decide +kernel
  have q := a ⟨k.toInt.toNat, by omega⟩
  have e : Int32.ofNat k.toInt.toNat = k := by
    rw [← Int32.ofInt_eq_ofNat, show ((k.toInt.toNat : Nat) : Int) = k.toInt by omega, Int32.ofInt_toInt]
  simp only [e] at q
  exact q
theorem own_shl64 (x : Int64) {k : Int32} {n : Nat} (h0 : 0 ≤ k.toInt) (h1 : k.toInt < 64) (hn : k.toInt.toNat = n) : (x <<< (k &&& 0x3f).toInt64).toBitVec = x.toBitVec <<< n := by
  rw [Int64.toBitVec_shiftLeft, BitVec.shiftLeft_eq', (own_sh6 h0 h1).1, hn]
theorem own_ushr64 (x : Int64) {k : Int32} {n : Nat} (h0 : 0 ≤ k.toInt) (h1 : k.toInt < 64) (hn : k.toInt.toNat = n) : ((x.toUInt64 >>> (k &&& 0x3f).toInt64.toUInt64).toInt64).toBitVec = x.toBitVec >>> n := by
  rw [UInt64.toBitVec_toInt64, UInt64.toBitVec_shiftRight, BitVec.ushiftRight_eq', (own_sh6 h0 h1).2, hn]; rfl
theorem own_ones {b : Nat} (hb : b ≤ 63) : ∀ i, ((1#64 <<< b) - 1#64).getLsbD i = decide (i < b) := fun i => by
  have e : (1#64 <<< b) - 1#64 = BitVec.ofNat 64 (2 ^ b - 1) := by
    apply BitVec.eq_of_toNat_eq
    have p : 2 ^ b < 2 ^ 64 := Nat.pow_lt_pow_right (by decide) (by omega)
    have p1 : 1 ≤ 2 ^ b := Nat.one_le_two_pow
    rw [BitVec.toNat_sub, BitVec.toNat_shiftLeft, BitVec.toNat_ofNat, BitVec.toNat_ofNat]
    have e1 : (1 % 2 ^ 64) <<< b = 2 ^ b := by rw [show 1 % 2 ^ 64 = 1 from rfl, Nat.one_shiftLeft]
    rw [e1]
    omega
  rw [e, BitVec.getLsbD_ofNat, Nat.testBit_two_pow_sub_one]
  by_cases q : i < b
  · simp [q]; omega
  · simp [q]
theorem own_hi {f : BitVec 64} {b : Nat} (hf : f.toNat < 2 ^ b) {i : Nat} (hi : b ≤ i) : f.getLsbD i = false := by
  rw [BitVec.getLsbD]
  exact Nat.testBit_lt_two_pow (Nat.lt_of_lt_of_le hf (Nat.pow_le_pow_right (by decide) hi))
theorem own_put {n f m : BitVec 64} {s b : Nat} (hm : ∀ i, m.getLsbD i = decide (i < b)) (hf : f.toNat < 2 ^ b) (hs : s + b ≤ 64) : (((n &&& ~~~ (m <<< s)) ||| (f <<< s)) >>> s) &&& m = f := by
  apply BitVec.eq_of_getLsbD_eq
  intro i hi
  have a1 : ¬ (s + i < s) := by omega
  by_cases q : i < b
  · have a2 : s + i < 64 := by omega
    simp only [BitVec.getLsbD_and, BitVec.getLsbD_ushiftRight, BitVec.getLsbD_or, BitVec.getLsbD_not, BitVec.getLsbD_shiftLeft, a1, a2, hm, q, Nat.add_sub_cancel_left, decide_true, decide_false, Bool.not_false, Bool.not_true, Bool.and_true, Bool.true_and, Bool.and_false, Bool.false_or]
  · rw [BitVec.getLsbD_and, hm, decide_eq_false q, Bool.and_false, own_hi hf (by omega)]
theorem own_add {a b : Int32} (h : -2147483648 ≤ a.toInt + b.toInt ∧ a.toInt + b.toInt < 2147483648) : (a + b).toInt = a.toInt + b.toInt := by
  rw [Int32.toInt_add]; exact Int.bmod_eq_of_le (by omega) (by omega)
theorem own_sub {a b : Int32} (h : -2147483648 ≤ a.toInt - b.toInt ∧ a.toInt - b.toInt < 2147483648) : (a - b).toInt = a.toInt - b.toInt := by
  rw [Int32.toInt_sub]; exact Int.bmod_eq_of_le (by omega) (by omega)
theorem own_and31 (x : Int32) : 0 ≤ (x &&& (2147483647 : Int32)).toInt := by
  have e := own_mask (x := x) (m := 2147483647) (k := 31) rfl
  rw [own_ti (by rw [e]; omega)]; omega
theorem own_rem {x m : Int32} (hx : 0 ≤ x.toInt) (hm : 0 < m.toInt) : (x % m).toInt = x.toInt % m.toInt ∧ 0 ≤ (x % m).toInt ∧ (x % m).toInt < m.toInt := by
  have e : (x % m).toInt = x.toInt.tmod m.toInt := Int32.toInt_mod x m
  rw [Int.tmod_eq_emod_of_nonneg hx] at e
  exact ⟨e, e ▸ Int.emod_nonneg _ (by omega), e ▸ Int.emod_lt_of_pos _ hm⟩
theorem own_ushrn (x : Int32) {k : Int32} {n : Nat} (hk : ((k &&& 31).toUInt32.toBitVec % 32).toNat = n) : ((x.toUInt32 >>> (k &&& 31).toUInt32).toInt32).toBitVec.toNat = x.toBitVec.toNat / 2 ^ n := by
  rw [UInt32.toBitVec_toInt32, UInt32.toBitVec_shiftRight, BitVec.ushiftRight_eq', hk, BitVec.toNat_ushiftRight, Nat.shiftRight_eq_div_pow]; rfl
theorem own_ushr {x : Int32} {k : Int32} {n : Nat} (hk : ((k &&& 31).toUInt32.toBitVec % 32).toNat = n) (hx : 0 ≤ x.toInt) : ((x.toUInt32 >>> (k &&& 31).toUInt32).toInt32).toInt = x.toInt / 2 ^ n := by
  obtain ⟨e, l⟩ := own_tn hx
  have q := own_ushrn x hk
  have le : x.toBitVec.toNat / 2 ^ n ≤ x.toBitVec.toNat := Nat.div_le_self _ _
  rw [own_ti (by rw [q]; omega), q, e]
  simp
theorem own_ushrU (x : Int32) {k : Int32} {n : Nat} (hk : ((k &&& 31).toUInt32.toBitVec % 32).toNat = n) (hn : 1 ≤ n) : 0 ≤ ((x.toUInt32 >>> (k &&& 31).toUInt32).toInt32).toInt := by
  have q := own_ushrn x hk
  have l := x.toBitVec.isLt
  have p : 2 ^ 1 ≤ 2 ^ n := Nat.pow_le_pow_right (by decide) hn
  have d : x.toBitVec.toNat / 2 ^ n ≤ x.toBitVec.toNat / 2 := Nat.div_le_div_left p (by decide)
  rw [own_ti (by rw [q]; omega)]
  omega

set_option maxRecDepth 65536
set_option maxHeartbeats 4000000
theorem own_lg {X v5 v10 v15 v20 y6 y11 y16 y21 : Int} (h : 0 < X) (hlt : X < 2147483648) (e5 : v5 = if X < 65536 then X else X / 65536) (e6 : y6 = if X < 65536 then 31 else 15) (e10 : v10 = if v5 < 256 then v5 else v5 / 256) (e11 : y11 = if v5 < 256 then y6 else y6 - 8) (e15 : v15 = if v10 < 16 then v10 else v10 / 16) (e16 : y16 = if v10 < 16 then y11 else y11 - 4) (e20 : v20 = if v15 < 4 then v15 else v15 / 4) (e21 : y21 = if v15 < 4 then y16 else y16 - 2) : 0 ≤ y21 - v20 / 2 ∧ y21 - v20 / 2 ≤ 31 ∧ X < 2 ^ (32 - (y21 - v20 / 2)).toNat ∧ 2 ^ (31 - (y21 - v20 / 2)).toNat ≤ X := by
  have key : ∀ (a b : Int) (y : Int), X < b → a ≤ X → 0 ≤ y → y ≤ 31 → b = 2 ^ (32 - y).toNat → a = 2 ^ (31 - y).toNat → (0 ≤ y ∧ y ≤ 31 ∧ X < 2 ^ (32 - y).toNat ∧ 2 ^ (31 - y).toNat ≤ X) := fun a b y h1 h2 h3 h4 h5 h6 => ⟨h3, h4, h5 ▸ h1, h6 ▸ h2⟩
  by_cases q1 : X < 65536
  · rw [if_pos q1] at e5 e6
    by_cases q2 : v5 < 256
    · rw [if_pos q2] at e10 e11
      by_cases q3 : v10 < 16
      · rw [if_pos q3] at e15 e16
        by_cases q4 : v15 < 4
        · rw [if_pos q4] at e20 e21
          by_cases q5 : v20 < 2
          · have ey : y21 - v20 / 2 = 31 := by omega
            rw [ey]; exact key 1 2 31 (by omega) (by omega) (by decide) (by decide) rfl rfl
          · have ey : y21 - v20 / 2 = 30 := by omega
            rw [ey]; exact key 2 4 30 (by omega) (by omega) (by decide) (by decide) rfl rfl
        · rw [if_neg q4] at e20 e21
          by_cases q5 : v20 < 2
          · have ey : y21 - v20 / 2 = 29 := by omega
            rw [ey]; exact key 4 8 29 (by omega) (by omega) (by decide) (by decide) rfl rfl
          · have ey : y21 - v20 / 2 = 28 := by omega
            rw [ey]; exact key 8 16 28 (by omega) (by omega) (by decide) (by decide) rfl rfl
      · rw [if_neg q3] at e15 e16
        by_cases q4 : v15 < 4
        · rw [if_pos q4] at e20 e21
          by_cases q5 : v20 < 2
          · have ey : y21 - v20 / 2 = 27 := by omega
            rw [ey]; exact key 16 32 27 (by omega) (by omega) (by decide) (by decide) rfl rfl
          · have ey : y21 - v20 / 2 = 26 := by omega
            rw [ey]; exact key 32 64 26 (by omega) (by omega) (by decide) (by decide) rfl rfl
        · rw [if_neg q4] at e20 e21
          by_cases q5 : v20 < 2
          · have ey : y21 - v20 / 2 = 25 := by omega
            rw [ey]; exact key 64 128 25 (by omega) (by omega) (by decide) (by decide) rfl rfl
          · have ey : y21 - v20 / 2 = 24 := by omega
            rw [ey]; exact key 128 256 24 (by omega) (by omega) (by decide) (by decide) rfl rfl
    · rw [if_neg q2] at e10 e11
      by_cases q3 : v10 < 16
      · rw [if_pos q3] at e15 e16
        by_cases q4 : v15 < 4
        · rw [if_pos q4] at e20 e21
          by_cases q5 : v20 < 2
          · have ey : y21 - v20 / 2 = 23 := by omega
            rw [ey]; exact key 256 512 23 (by omega) (by omega) (by decide) (by decide) rfl rfl
          · have ey : y21 - v20 / 2 = 22 := by omega
            rw [ey]; exact key 512 1024 22 (by omega) (by omega) (by decide) (by decide) rfl rfl
        · rw [if_neg q4] at e20 e21
          by_cases q5 : v20 < 2
          · have ey : y21 - v20 / 2 = 21 := by omega
            rw [ey]; exact key 1024 2048 21 (by omega) (by omega) (by decide) (by decide) rfl rfl
          · have ey : y21 - v20 / 2 = 20 := by omega
            rw [ey]; exact key 2048 4096 20 (by omega) (by omega) (by decide) (by decide) rfl rfl
      · rw [if_neg q3] at e15 e16
        by_cases q4 : v15 < 4
        · rw [if_pos q4] at e20 e21
          by_cases q5 : v20 < 2
          · have ey : y21 - v20 / 2 = 19 := by omega
            rw [ey]; exact key 4096 8192 19 (by omega) (by omega) (by decide) (by decide) rfl rfl
          · have ey : y21 - v20 / 2 = 18 := by omega
            rw [ey]; exact key 8192 16384 18 (by omega) (by omega) (by decide) (by decide) rfl rfl
        · rw [if_neg q4] at e20 e21
          by_cases q5 : v20 < 2
          · have ey : y21 - v20 / 2 = 17 := by omega
            rw [ey]; exact key 16384 32768 17 (by omega) (by omega) (by decide) (by decide) rfl rfl
          · have ey : y21 - v20 / 2 = 16 := by omega
            rw [ey]; exact key 32768 65536 16 (by omega) (by omega) (by decide) (by decide) rfl rfl
  · rw [if_neg q1] at e5 e6
    by_cases q2 : v5 < 256
    · rw [if_pos q2] at e10 e11
      by_cases q3 : v10 < 16
      · rw [if_pos q3] at e15 e16
        by_cases q4 : v15 < 4
        · rw [if_pos q4] at e20 e21
          by_cases q5 : v20 < 2
          · have ey : y21 - v20 / 2 = 15 := by omega
            rw [ey]; exact key 65536 131072 15 (by omega) (by omega) (by decide) (by decide) rfl rfl
          · have ey : y21 - v20 / 2 = 14 := by omega
            rw [ey]; exact key 131072 262144 14 (by omega) (by omega) (by decide) (by decide) rfl rfl
        · rw [if_neg q4] at e20 e21
          by_cases q5 : v20 < 2
          · have ey : y21 - v20 / 2 = 13 := by omega
            rw [ey]; exact key 262144 524288 13 (by omega) (by omega) (by decide) (by decide) rfl rfl
          · have ey : y21 - v20 / 2 = 12 := by omega
            rw [ey]; exact key 524288 1048576 12 (by omega) (by omega) (by decide) (by decide) rfl rfl
      · rw [if_neg q3] at e15 e16
        by_cases q4 : v15 < 4
        · rw [if_pos q4] at e20 e21
          by_cases q5 : v20 < 2
          · have ey : y21 - v20 / 2 = 11 := by omega
            rw [ey]; exact key 1048576 2097152 11 (by omega) (by omega) (by decide) (by decide) rfl rfl
          · have ey : y21 - v20 / 2 = 10 := by omega
            rw [ey]; exact key 2097152 4194304 10 (by omega) (by omega) (by decide) (by decide) rfl rfl
        · rw [if_neg q4] at e20 e21
          by_cases q5 : v20 < 2
          · have ey : y21 - v20 / 2 = 9 := by omega
            rw [ey]; exact key 4194304 8388608 9 (by omega) (by omega) (by decide) (by decide) rfl rfl
          · have ey : y21 - v20 / 2 = 8 := by omega
            rw [ey]; exact key 8388608 16777216 8 (by omega) (by omega) (by decide) (by decide) rfl rfl
    · rw [if_neg q2] at e10 e11
      by_cases q3 : v10 < 16
      · rw [if_pos q3] at e15 e16
        by_cases q4 : v15 < 4
        · rw [if_pos q4] at e20 e21
          by_cases q5 : v20 < 2
          · have ey : y21 - v20 / 2 = 7 := by omega
            rw [ey]; exact key 16777216 33554432 7 (by omega) (by omega) (by decide) (by decide) rfl rfl
          · have ey : y21 - v20 / 2 = 6 := by omega
            rw [ey]; exact key 33554432 67108864 6 (by omega) (by omega) (by decide) (by decide) rfl rfl
        · rw [if_neg q4] at e20 e21
          by_cases q5 : v20 < 2
          · have ey : y21 - v20 / 2 = 5 := by omega
            rw [ey]; exact key 67108864 134217728 5 (by omega) (by omega) (by decide) (by decide) rfl rfl
          · have ey : y21 - v20 / 2 = 4 := by omega
            rw [ey]; exact key 134217728 268435456 4 (by omega) (by omega) (by decide) (by decide) rfl rfl
      · rw [if_neg q3] at e15 e16
        by_cases q4 : v15 < 4
        · rw [if_pos q4] at e20 e21
          by_cases q5 : v20 < 2
          · have ey : y21 - v20 / 2 = 3 := by omega
            rw [ey]; exact key 268435456 536870912 3 (by omega) (by omega) (by decide) (by decide) rfl rfl
          · have ey : y21 - v20 / 2 = 2 := by omega
            rw [ey]; exact key 536870912 1073741824 2 (by omega) (by omega) (by decide) (by decide) rfl rfl
        · rw [if_neg q4] at e20 e21
          by_cases q5 : v20 < 2
          · have ey : y21 - v20 / 2 = 1 := by omega
            rw [ey]; exact key 1073741824 2147483648 1 (by omega) (by omega) (by decide) (by decide) rfl rfl
          · have ey : y21 - v20 / 2 = 0 := by omega
            rw [ey]; exact key 2147483648 4294967296 0 (by omega) (by omega) (by decide) (by decide) rfl rfl
theorem own_nlz {x : Int32} (h : 0 < x.toInt) : ∃ y : Int, (own_r3 x).toInt = y ∧ 0 ≤ y ∧ y ≤ 31 ∧ x.toInt < 2 ^ (32 - y).toNat ∧ 2 ^ (31 - y).toNat ≤ x.toInt := by
  have hlt := Int32.toInt_lt x
  have e5 : (own_r3_v5 x).toInt = if x.toInt < 65536 then x.toInt else x.toInt / 65536 := by
    rw [own_r3_v5, apply_ite Int32.toInt, own_r3_v4, own_ushr (n := 16) (by decide) (by omega), show (2 : Int) ^ 16 = 65536 from by decide]
    simp only [Int32.lt_iff_toInt_lt, Int32.reduceToInt]
  have e6 : (own_r3_v6 x).toInt = if x.toInt < 65536 then 31 else 15 := by
    rw [own_r3_v6, apply_ite Int32.toInt, own_r3_v3]
    simp only [Int32.lt_iff_toInt_lt, Int32.reduceToInt]
    rw [show ((31 : Int32) + (-16 : Int32)).toInt = 15 from by decide]
  have b5 : 0 < (own_r3_v5 x).toInt ∧ (own_r3_v5 x).toInt < 65536 := by rw [e5]; clear e5 e6; split <;> omega
  have b6 : (own_r3_v6 x).toInt = 31 ∨ (own_r3_v6 x).toInt = 15 := by rw [e6]; clear e5 e6; split <;> omega
  have e8 : (own_r3_v8 x).toInt = (own_r3_v6 x).toInt - 8 := by rw [own_r3_v8, own_add (by rw [show (-8 : Int32).toInt = -8 from rfl]; clear e5 e6; omega), show (-8 : Int32).toInt = -8 from rfl]; clear e5 e6; omega
  have e10 : (own_r3_v10 x).toInt = if (own_r3_v5 x).toInt < 256 then (own_r3_v5 x).toInt else (own_r3_v5 x).toInt / 256 := by
    rw [own_r3_v10, apply_ite Int32.toInt, own_r3_v9, own_ushr (n := 8) (by decide) (by clear e5 e6 e8; omega), show (2 : Int) ^ 8 = 256 from by decide]
    simp only [Int32.lt_iff_toInt_lt, Int32.reduceToInt]
  have e11 : (own_r3_v11 x).toInt = if (own_r3_v5 x).toInt < 256 then (own_r3_v6 x).toInt else (own_r3_v6 x).toInt - 8 := by
    rw [own_r3_v11, apply_ite Int32.toInt, e8]
    simp only [Int32.lt_iff_toInt_lt, Int32.reduceToInt]
  have b10 : 0 < (own_r3_v10 x).toInt ∧ (own_r3_v10 x).toInt < 256 := by rw [e10]; clear e5 e6 e8 e10 e11; split <;> omega
  have b11 : 7 ≤ (own_r3_v11 x).toInt ∧ (own_r3_v11 x).toInt ≤ 31 := by rw [e11]; clear e5 e6 e8 e10 e11; split <;> omega
  have e13 : (own_r3_v13 x).toInt = (own_r3_v11 x).toInt - 4 := by rw [own_r3_v13, own_add (by rw [show (-4 : Int32).toInt = -4 from rfl]; clear e5 e6 e8 e10 e11; omega), show (-4 : Int32).toInt = -4 from rfl]; clear e5 e6 e8 e10 e11; omega
  have e15 : (own_r3_v15 x).toInt = if (own_r3_v10 x).toInt < 16 then (own_r3_v10 x).toInt else (own_r3_v10 x).toInt / 16 := by
    rw [own_r3_v15, apply_ite Int32.toInt, own_r3_v14, own_ushr (n := 4) (by decide) (by clear e5 e6 e8 e10 e11 e13; omega), show (2 : Int) ^ 4 = 16 from by decide]
    simp only [Int32.lt_iff_toInt_lt, Int32.reduceToInt]
  have e16 : (own_r3_v16 x).toInt = if (own_r3_v10 x).toInt < 16 then (own_r3_v11 x).toInt else (own_r3_v11 x).toInt - 4 := by
    rw [own_r3_v16, apply_ite Int32.toInt, e13]
    simp only [Int32.lt_iff_toInt_lt, Int32.reduceToInt]
  have b15 : 0 < (own_r3_v15 x).toInt ∧ (own_r3_v15 x).toInt < 16 := by rw [e15]; clear e5 e6 e8 e10 e11 e13 e15 e16; split <;> omega
  have b16 : 3 ≤ (own_r3_v16 x).toInt ∧ (own_r3_v16 x).toInt ≤ 31 := by rw [e16]; clear e5 e6 e8 e10 e11 e13 e15 e16; split <;> omega
  have e18 : (own_r3_v18 x).toInt = (own_r3_v16 x).toInt - 2 := by rw [own_r3_v18, own_add (by rw [show (-2 : Int32).toInt = -2 from rfl]; clear e5 e6 e8 e10 e11 e13 e15 e16; omega), show (-2 : Int32).toInt = -2 from rfl]; clear e5 e6 e8 e10 e11 e13 e15 e16; omega
  have e20 : (own_r3_v20 x).toInt = if (own_r3_v15 x).toInt < 4 then (own_r3_v15 x).toInt else (own_r3_v15 x).toInt / 4 := by
    rw [own_r3_v20, apply_ite Int32.toInt, own_r3_v19, own_ushr (n := 2) (by decide) (by clear e5 e6 e8 e10 e11 e13 e15 e16 e18; omega), show (2 : Int) ^ 2 = 4 from by decide]
    simp only [Int32.lt_iff_toInt_lt, Int32.reduceToInt]
  have e21 : (own_r3_v21 x).toInt = if (own_r3_v15 x).toInt < 4 then (own_r3_v16 x).toInt else (own_r3_v16 x).toInt - 2 := by
    rw [own_r3_v21, apply_ite Int32.toInt, e18]
    simp only [Int32.lt_iff_toInt_lt, Int32.reduceToInt]
  have b20 : 0 < (own_r3_v20 x).toInt ∧ (own_r3_v20 x).toInt < 4 := by rw [e20]; clear e5 e6 e8 e10 e11 e13 e15 e16 e18 e20 e21; split <;> omega
  have b21 : 1 ≤ (own_r3_v21 x).toInt ∧ (own_r3_v21 x).toInt ≤ 31 := by rw [e21]; clear e5 e6 e8 e10 e11 e13 e15 e16 e18 e20 e21; split <;> omega
  have sh := own_ushr (x := own_r3_v20 x) (k := 1) (n := 1) (by decide) (by clear e5 e6 e8 e10 e11 e13 e15 e16 e18 e20 e21; omega)
  rw [show (2 : Int) ^ 1 = 2 from by decide] at sh
  have e22 : (own_r3 x).toInt = (own_r3_v21 x).toInt - (own_r3_v20 x).toInt / 2 := by
    rw [own_r3, if_pos (by rw [Int32.lt_iff_toInt_lt]; exact h), own_r3_v22, own_sub (by rw [sh]; clear e5 e6 e8 e10 e11 e13 e15 e16 e18 e20 e21; omega), sh]
  exact ⟨_, e22, own_lg h (by omega) e5 e6 e10 e11 e15 e16 e20 e21⟩
theorem own_mul {a b : Int32} (h : -2147483648 ≤ a.toInt * b.toInt ∧ a.toInt * b.toInt < 2147483648) : (a * b).toInt = a.toInt * b.toInt := by
  rw [Int32.toInt_mul]; exact Int.bmod_eq_of_le (by omega) (by omega)
theorem own_div {a b : Int32} (ha : 0 ≤ a.toInt) (hb : 0 < b.toInt) : (a / b).toInt = a.toInt / b.toInt := by
  have l := Int32.toInt_lt a
  have d : a.toInt / b.toInt ≤ a.toInt := Int.ediv_le_self _ ha
  have n : 0 ≤ a.toInt / b.toInt := Int.ediv_nonneg ha (by omega)
  rw [Int32.toInt_div, Int.tdiv_eq_ediv_of_nonneg ha]
  exact Int.bmod_eq_of_le (by omega) (by omega)
theorem own_qr {q r pw : Int} (hp : 0 < pw) (hr : 0 ≤ r) (hrp : r < pw) : (q * pw + r) / pw = q ∧ (q * pw + r) % pw = r := by
  constructor
  · rw [Int.add_comm, Int.add_mul_ediv_right _ _ (by omega), Int.ediv_eq_zero_of_lt hr hrp]; omega
  · rw [Int.add_comm, Int.add_mul_emod_self_right, Int.emod_eq_of_lt hr hrp]
theorem own_bits {x k : Int32} {n : Nat} (hn : n ≤ 30) (hk : k.toInt = n + 1) (hx : (n = 0 ∧ 0 ≤ x.toInt ∧ x.toInt ≤ 1) ∨ ((2 : Int) ^ n ≤ x.toInt ∧ x.toInt < 2 ^ (n + 1))) : own_r4 (1 : Int32) ((32 : Int32) - (own_r3 x)) = k := by
  have p1 : (1 : Int) ≤ 2 ^ n := by have := Nat.one_le_two_pow (n := n); exact_mod_cast this
  by_cases z : x.toInt = 0
  · have n0 : n = 0 := by rcases hx with h | h <;> omega
    have x0 : x = 0 := Int32.toInt_inj.mp z
    rw [x0, ← Int32.toInt_inj, hk, n0]; decide
  · have hpos : 0 < x.toInt := by rcases hx with h | h <;> omega
    obtain ⟨y, e, y0, y1, h1, h2⟩ := own_nlz hpos
    have hlo : (2 : Int) ^ n ≤ x.toInt := by
      rcases hx with h | h
      · rw [h.1]; omega
      · exact h.1
    have hhi : x.toInt < 2 ^ (n + 1) := by
      rcases hx with h | h
      · rw [h.1]; omega
      · exact h.2
    have a1 : n < (32 - y).toNat := by
      have t : (2 : Int) ^ n < 2 ^ (32 - y).toNat := Int.lt_of_le_of_lt hlo h1
      have t2 : 2 ^ n < 2 ^ (32 - y).toNat := by exact_mod_cast t
      exact (Nat.pow_lt_pow_iff_right (by decide)).mp t2
    have a2 : (31 - y).toNat < n + 1 := by
      have t : (2 : Int) ^ (31 - y).toNat < 2 ^ (n + 1) := Int.lt_of_le_of_lt h2 hhi
      have t2 : 2 ^ (31 - y).toNat < 2 ^ (n + 1) := by exact_mod_cast t
      exact (Nat.pow_lt_pow_iff_right (by decide)).mp t2
    have ey : y = 31 - (n : Int) := by omega
    have es : ((32 : Int32) - own_r3 x).toInt = n + 1 := by
      rw [own_sub (by rw [e, show (32 : Int32).toInt = 32 from rfl]; omega), e, show (32 : Int32).toInt = 32 from rfl]; omega
    rw [own_r4, ← Int32.toInt_inj]
    simp only [apply_ite Int32.toInt, Int32.lt_iff_toInt_lt, es, Int32.reduceToInt, hk]
    omega
theorem own_mk64 {k : Int32} {n : Nat} (h0 : 0 ≤ k.toInt) (h1 : k.toInt < 64) (hn : k.toInt.toNat = n) : (((1 : Int64) <<< (k &&& 0x3f).toInt64) - (1 : Int64)).toBitVec = (1#64 <<< n) - 1#64 := by
  rw [Int64.toBitVec_sub, own_shl64 _ h0 h1 hn]; rfl
theorem own_not64 (x : Int64) : (x ^^^ (-1 : Int64)).toBitVec = ~~~ x.toBitVec := by
  rw [Int64.toBitVec_xor, show (-1 : Int64).toBitVec = BitVec.allOnes 64 from rfl, BitVec.xor_allOnes]
theorem own_f11 {p2 v10 : Int32} {v15 : Int64} {n : Fin 31} (h : 1 ≤ v10.toInt ∧ v10.toInt ≤ 2147483647 ∧ ((n.val = 0 ∧ 0 ≤ v10.toInt - 1 ∧ v10.toInt - 1 ≤ 1) ∨ ((2 : Int) ^ n.val ≤ v10.toInt - 1 ∧ v10.toInt - 1 < 2 ^ (n.val + 1)))) (hv15 : v15 = (((p2 &&& (2147483647 : Int32)) % v10).toInt64)) : v15.toBitVec.toNat < 2 ^ (n.val + 1) := by
  have r := (own_rem (own_and31 p2) (m := v10) (by omega)).2
  have t := own_tn r.1
  have e : v15.toBitVec.toNat = ((p2 &&& (2147483647 : Int32)) % v10).toBitVec.toNat := by
    rw [hv15, Int32.toBitVec_toInt64, BitVec.toNat_signExtend]
    have hm : ((p2 &&& (2147483647 : Int32)) % v10).toBitVec.msb = false := by
      rw [BitVec.msb_eq_false_iff_two_mul_lt]; omega
    rw [hm]; simp [BitVec.toNat_setWidth]
    omega
  have lt : (v15.toBitVec.toNat : Int) < 2 ^ (n.val + 1) := by
    rcases h.2.2 with ⟨z, a, b⟩ | ⟨a, b⟩
    · rw [z]; omega
    · omega
  exact_mod_cast lt
theorem own_f4 {v1 v10 : Int32} {n : Fin 31} (h1 : v1.toInt = n.val + 1) (h : 1 ≤ v10.toInt ∧ v10.toInt ≤ 2147483647 ∧ ((n.val = 0 ∧ 0 ≤ v10.toInt - 1 ∧ v10.toInt - 1 ≤ 1) ∨ ((2 : Int) ^ n.val ≤ v10.toInt - 1 ∧ v10.toInt - 1 < 2 ^ (n.val + 1)))) : own_r4 (1 : Int32) ((32 : Int32) - (own_r3 (v10 - (1 : Int32)))) = v1 := by
  have e : (v10 - (1 : Int32)).toInt = v10.toInt - 1 := by rw [own_sub (by rw [show (1 : Int32).toInt = 1 from rfl]; omega), show (1 : Int32).toInt = 1 from rfl]
  exact own_bits (n := n.val) (by omega) h1 (by rw [e]; exact h.2.2)
theorem own_f5 {v1 v11 : Int32} {n : Fin 31} (h1 : v1.toInt = n.val + 1) (hv11 : v11 = ((64 : Int32) / v1)) : v11.toInt = 64 / (n.val + 1 : Int) ∧ 2 ≤ v11.toInt ∧ v11.toInt ≤ 64 ∧ v11.toInt * (n.val + 1 : Int) ≤ 64 := by
  have e : v11.toInt = 64 / (n.val + 1 : Int) := by rw [hv11, own_div (by decide) (by omega), h1]; rfl
  have hb : (n.val : Int) + 1 ≤ 31 := by omega
  refine ⟨e, ?_, ?_, ?_⟩
  · rw [e]; exact (Int.le_ediv_iff_mul_le (by omega)).mpr (by omega)
  · rw [e]; exact Int.le_trans (Int.ediv_le_self _ (by omega)) (by omega)
  · rw [e]; exact Int.ediv_mul_le _ (by omega)
theorem own_f9 {v1 v11 v13 v17 : Int32} {n : Fin 31} (h1 : v1.toInt = n.val + 1) (h11 : v11.toInt * (n.val + 1 : Int) ≤ 64) (h13 : 0 ≤ v13.toInt ∧ v13.toInt < v11.toInt) (hv17 : v17 = (v13 * v1)) : 0 ≤ v17.toInt ∧ v17.toInt + (n.val + 1) ≤ 64 := by
  have b1 : 0 ≤ v13.toInt * (n.val + 1 : Int) := Int.mul_nonneg h13.1 (by omega)
  have b2 : (v13.toInt + 1) * (n.val + 1 : Int) ≤ v11.toInt * (n.val + 1 : Int) := Int.mul_le_mul_of_nonneg_right (by omega) (by omega)
  have b3 : (v13.toInt + 1) * (n.val + 1 : Int) = v13.toInt * (n.val + 1 : Int) + (n.val + 1) := by rw [Int.add_mul, Int.one_mul]
  have m : v17.toInt = v13.toInt * (n.val + 1 : Int) := by rw [hv17, own_mul (by rw [h1]; omega), h1]
  omega
theorem own_f12 {v1 v17 : Int32} {n : Fin 31} {x v15 : Int64} (h1 : v1.toInt = n.val + 1) (h17 : 0 ≤ v17.toInt ∧ v17.toInt + (n.val + 1) ≤ 64) (h15 : v15.toBitVec.toNat < 2 ^ (n.val + 1)) : ((((((x &&& (((((1 : Int64) <<< (v1 &&& 0x3f).toInt64) - (1 : Int64)) <<< (v17 &&& 0x3f).toInt64) ^^^ (-1 : Int64))) ||| (v15 <<< (v17 &&& 0x3f).toInt64)).toUInt64 >>> (v17 &&& 0x3f).toInt64.toUInt64).toInt64) &&& (((1 : Int64) <<< (v1 &&& 0x3f).toInt64) - (1 : Int64)))) = v15 := by
  have a0 : 0 ≤ v17.toInt := h17.1
  have a1 : v17.toInt < 64 := by omega
  have c0 : 0 ≤ v1.toInt := by omega
  have c1 : v1.toInt < 64 := by omega
  rw [← Int64.toBitVec_inj, Int64.toBitVec_and, own_ushr64 _ a0 a1 rfl, Int64.toBitVec_or, Int64.toBitVec_and, own_not64, own_shl64 _ a0 a1 rfl, own_shl64 _ a0 a1 rfl, own_mk64 c0 c1 (n := n.val + 1) (by omega)]
  exact own_put (own_ones (by omega)) h15 (by omega)
theorem own_low {n f m : BitVec 64} {s b : Nat} (hm : ∀ i, m.getLsbD i = decide (i < b)) (hs : s ≤ 63) : (((n &&& ~~~ (m <<< s)) ||| (f <<< s)) ^^^ n) &&& ((1#64 <<< s) - 1#64) = 0#64 := by
  apply BitVec.eq_of_getLsbD_eq
  intro i hi
  have z : (0#64).getLsbD i = false := BitVec.getLsbD_zero
  rw [z]
  by_cases q : i < s
  · simp only [BitVec.getLsbD_and, BitVec.getLsbD_xor, BitVec.getLsbD_or, BitVec.getLsbD_not, BitVec.getLsbD_shiftLeft, own_ones hs, q, hi, decide_true, decide_false, Bool.not_false, Bool.not_true, Bool.and_true, Bool.true_and, Bool.and_false, Bool.false_and, Bool.or_false, Bool.xor_self]
  · rw [BitVec.getLsbD_and, own_ones hs, decide_eq_false q, Bool.and_false]
theorem own_high {n f m : BitVec 64} {s b : Nat} (hm : ∀ i, m.getLsbD i = decide (i < b)) (hf : f.toNat < 2 ^ b) : ((((n &&& ~~~ (m <<< s)) ||| (f <<< s)) ^^^ n) >>> s) >>> b = 0#64 := by
  apply BitVec.eq_of_getLsbD_eq
  intro i hi
  have z : (0#64).getLsbD i = false := BitVec.getLsbD_zero
  have a1 : ¬ (s + (b + i) < s) := by omega
  have a2 : ¬ (b + i < b) := by omega
  have a3 : f.getLsbD (b + i) = false := own_hi hf (by omega)
  rw [z]
  by_cases q : s + (b + i) < 64
  · simp only [BitVec.getLsbD_ushiftRight, BitVec.getLsbD_xor, BitVec.getLsbD_or, BitVec.getLsbD_and, BitVec.getLsbD_not, BitVec.getLsbD_shiftLeft, a1, a2, a3, hm, q, Nat.add_sub_cancel_left, decide_true, decide_false, Bool.not_false, Bool.not_true, Bool.and_true, Bool.true_and, Bool.and_false, Bool.or_false, Bool.xor_self]
  · have b1 : ∀ x : BitVec 64, x.getLsbD (s + (b + i)) = false := fun x => BitVec.getLsbD_of_ge x _ (by omega)
    rw [BitVec.getLsbD_ushiftRight, BitVec.getLsbD_ushiftRight, b1]
theorem own_g1 {p0 v1 : Int32} (hv1 : v1 = ((1 : Int32) + ((p0 &&& (2147483647 : Int32)) % (31 : Int32)))) : ∃ n : Fin 31, v1 = Int32.ofNat (n.val + 1) ∧ v1.toInt = n.val + 1 := by
  have r := (own_rem (own_and31 p0) (m := 31) (by decide)).2
  rw [show (31 : Int32).toInt = 31 from rfl] at r
  have s : v1.toInt = ((p0 &&& (2147483647 : Int32)) % (31 : Int32)).toInt + 1 := by
    rw [hv1, own_add (by rw [show (1 : Int32).toInt = 1 from rfl]; omega), show (1 : Int32).toInt = 1 from rfl]; omega
  refine ⟨⟨(v1.toInt - 1).toNat, by omega⟩, ?_, by show v1.toInt = ((v1.toInt - 1).toNat : Int) + 1; omega⟩
  show v1 = Int32.ofNat ((v1.toInt - 1).toNat + 1)
  rw [← Int32.ofInt_eq_ofNat, show (((v1.toInt - 1).toNat + 1 : Nat) : Int) = v1.toInt by omega, Int32.ofInt_toInt]
def own_Rng (n : Nat) (z : Int) : Prop := 1 ≤ z ∧ z ≤ 2147483647 ∧ ((n = 0 ∧ 0 ≤ z - 1 ∧ z - 1 ≤ 1) ∨ ((2 : Int) ^ n ≤ z - 1 ∧ z - 1 < 2 ^ (n + 1)))
theorem own_g2 {p1 v9 : Int32} {v8 : Int64} (hv8 : v8 = (((1 : Int32) + (p1 &&& (1 : Int32))).toInt64)) (hv9 : v9 = (v8.toInt32)) : own_Rng 0 v9.toInt := by
  have e := own_mask (x := p1) (m := 1) (k := 1) rfl
  have t := own_ti (x := p1 &&& (1 : Int32)) (by omega)
  have s : v9 = (1 : Int32) + (p1 &&& (1 : Int32)) := by rw [hv9, hv8, Int32.toInt32_toInt64]
  have a : v9.toInt = 1 + (p1 &&& (1 : Int32)).toInt := by rw [s, own_add (by rw [show (1 : Int32).toInt = 1 from rfl]; omega), show (1 : Int32).toInt = 1 from rfl]
  exact ⟨by omega, by omega, Or.inl ⟨rfl, by omega, by omega⟩⟩
theorem own_ti64 {x : Int64} (h : x.toBitVec.toNat < 9223372036854775808) : x.toInt = (x.toBitVec.toNat : Int) := by
  show x.toBitVec.toInt = _
  rw [BitVec.toInt_eq_toNat_cond, if_pos (by omega)]
theorem own_g3 {p1 v1 v55 : Int32} {v52 v53 v54 : Int64} {n : Fin 31} (h1 : v1.toInt = n.val + 1) (hne : ¬ (v1 = (1 : Int32))) (hv52 : v52 = ((1 : Int64) <<< ((v1 - (1 : Int32)) &&& 0x3f).toInt64)) (hv53 : v53 = ((v52 + (1 : Int64)) + ((p1.toInt64) &&& (v52 - (1 : Int64))))) (hv54 : v54 = (own_r8 (2147483647 : Int64) v53)) (hv55 : v55 = (v54.toInt32)) : own_Rng n.val v55.toInt := by
  have n0 : n.val ≠ 0 := fun q => hne (Int32.toInt_inj.mp (by rw [h1, q]; rfl))
  have es : (v1 - (1 : Int32)).toInt = n.val := by rw [own_sub (by rw [show (1 : Int32).toInt = 1 from rfl]; omega), show (1 : Int32).toInt = 1 from rfl]; omega
  have hn : n.val ≤ 30 := by omega
  have pb : 2 ^ n.val ≤ 2 ^ 30 := Nat.pow_le_pow_right (by decide) hn
  have pb1 : 1 ≤ 2 ^ n.val := Nat.one_le_two_pow
  have sh := own_shl64 (1 : Int64) (k := v1 - (1 : Int32)) (n := n.val) (by omega) (by omega) (by omega)
  have t52 : v52.toBitVec = 1#64 <<< n.val := by rw [hv52]; exact sh
  have u52 : v52.toBitVec.toNat = 2 ^ n.val := by
    rw [t52, BitVec.toNat_shiftLeft, show (1#64).toNat = 1 from rfl, Nat.one_shiftLeft]
    exact Nat.mod_eq_of_lt (by omega)
  have t51 : (v52 - (1 : Int64)).toBitVec.toNat = 2 ^ n.val - 1 := by
    rw [Int64.toBitVec_sub, BitVec.toNat_sub, u52, show (1 : Int64).toBitVec.toNat = 1 from rfl]; omega
  have ta : ((p1.toInt64) &&& (v52 - (1 : Int64))).toBitVec.toNat = p1.toInt64.toBitVec.toNat % 2 ^ n.val := by
    rw [Int64.toBitVec_and, BitVec.toNat_and, t51, Nat.and_two_pow_sub_one_eq_mod]
  have tl : p1.toInt64.toBitVec.toNat % 2 ^ n.val < 2 ^ n.val := Nat.mod_lt _ (by omega)
  have t53 : v53.toBitVec.toNat = 2 ^ n.val + 1 + p1.toInt64.toBitVec.toNat % 2 ^ n.val := by
    rw [hv53, Int64.toBitVec_add, BitVec.toNat_add, Int64.toBitVec_add, BitVec.toNat_add, ta, u52, show (1 : Int64).toBitVec.toNat = 1 from rfl]; omega
  have i53 : v53.toInt = 2 ^ n.val + 1 + ((p1.toInt64.toBitVec.toNat % 2 ^ n.val : Nat) : Int) := by
    rw [own_ti64 (by omega), t53]; push_cast; rfl
  have pI : ((2 ^ n.val : Nat) : Int) = 2 ^ n.val := by push_cast; rfl
  have b53 : 1 ≤ v53.toInt ∧ v53.toInt ≤ 2147483648 := by omega
  have i54 : v54.toInt = if v53.toInt < 2147483647 then v53.toInt else 2147483647 := by
    rw [hv54, own_r8, apply_ite Int64.toInt]
    simp only [Int64.lt_iff_toInt_lt]
    rfl
  have i55 : v55.toInt = v54.toInt := by
    rw [hv55, Int64.toInt_toInt32]
    exact Int.bmod_eq_of_le (by rw [i54]; clear i53 i54; split <;> omega) (by rw [i54]; clear i53 i54; split <;> omega)
  have p2 : (2 : Int) ^ (n.val + 1) = 2 * 2 ^ n.val := by rw [Int.pow_succ]; omega
  rw [own_Rng, i55, i54, p2]
  split
  · exact ⟨by omega, by omega, Or.inr ⟨by omega, by omega⟩⟩
  · exact ⟨by omega, by omega, Or.inr ⟨by omega, by omega⟩⟩
theorem own_g5 {p2 v11 : Int32} (hv11 : v11 = ((1 : Int32) + (p2 &&& (63 : Int32)))) : 0 ≤ (v11 - (1 : Int32)).toInt ∧ (v11 - (1 : Int32)).toInt ≤ 63 := by
  have e := own_mask (x := p2) (m := 63) (k := 6) rfl
  have t := own_ti (x := p2 &&& (63 : Int32)) (by omega)
  rw [hv11, Int32.add_comm, Int32.add_sub_cancel]; omega
theorem own_g6 {a v10 v13 : Int32} (ha : 0 ≤ a.toInt ∧ a.toInt ≤ 63) (h10 : 2 ≤ v10.toInt) (hv13 : v13 = a / v10) : 0 ≤ v13.toInt ∧ v13.toInt ≤ 31 := by
  have d : a.toInt / v10.toInt < 32 := (Int.ediv_lt_iff_lt_mul (by omega)).mpr (by omega)
  rw [hv13, own_div ha.1 (by omega)]
  exact ⟨Int.ediv_nonneg ha.1 (by omega), by omega⟩
theorem own_g7 {a v10 : Int32} (ha : 0 ≤ a.toInt) (h10 : 2 ≤ v10.toInt) : 0 ≤ (a % v10).toInt ∧ (a % v10).toInt < v10.toInt := (own_rem ha (by omega)).2
theorem own_g8 {v13 v17 : Int32} (h : 0 ≤ v13.toInt ∧ v13.toInt ≤ 31) (hv17 : v17 = (v13 + (1 : Int32))) : v17.toInt = v13.toInt + 1 := by
  rw [hv17, own_add (by rw [show (1 : Int32).toInt = 1 from rfl]; omega), show (1 : Int32).toInt = 1 from rfl]
theorem own_g9 {v13 v32 : Int32} (h : 0 ≤ v13.toInt ∧ v13.toInt ≤ 31) (hne : ¬ (v13 = (0 : Int32))) (hv32 : v32 = (v13 - (1 : Int32))) : v32.toInt = v13.toInt - 1 ∧ 1 ≤ v13.toInt := by
  have q : v13.toInt ≠ 0 := fun q => hne (Int32.toInt_inj.mp q)
  rw [hv32, own_sub (by rw [show (1 : Int32).toInt = 1 from rfl]; omega), show (1 : Int32).toInt = 1 from rfl]
  exact ⟨rfl, by omega⟩
theorem own_ix {x : Int32} (h0 : 0 ≤ x.toInt) (h1 : x.toInt < 64) : ¬ x < 0 ∧ x.toNatClampNeg < 64 := by
  refine ⟨by rw [Int32.lt_iff_toInt_lt, show (0 : Int32).toInt = 0 from rfl]; omega, ?_⟩
  show x.toInt.toNat < 64
  omega
theorem own_g10 {v10 : Int32} (h : 2 ≤ v10.toInt ∧ v10.toInt ≤ 64) : 1 ≤ ((((64 : Int32) + v10) - (1 : Int32)) / v10).toInt ∧ ((((64 : Int32) + v10) - (1 : Int32)) / v10).toInt ≤ 32 := by
  have e64 : (64 : Int32).toInt = 64 := rfl
  have e1 : (1 : Int32).toInt = 1 := rfl
  have a : ((64 : Int32) + v10).toInt = 64 + v10.toInt := by rw [own_add (by rw [e64]; omega), e64]
  have s : (((64 : Int32) + v10) - (1 : Int32)).toInt = 63 + v10.toInt := by rw [own_sub (by rw [a, e1]; omega), a, e1]; omega
  rw [own_div (by rw [s]; omega) (by omega), s]
  refine ⟨(Int.le_ediv_iff_mul_le (by omega)).mpr (by omega), ?_⟩
  rw [Int.add_ediv_of_dvd_right (Int.dvd_refl _), Int.ediv_self (by omega)]
  have d : 63 / v10.toInt < 32 := (Int.ediv_lt_iff_lt_mul (by omega)).mpr (by omega)
  omega
theorem own_g11 {v10 : Int32} (h : 2 ≤ v10.toInt ∧ v10.toInt ≤ 64) : ¬ ((16 : Int32) * ((((64 : Int32) + v10) - (1 : Int32)) / v10)) < 0 ∧ ((16 : Int32) * ((((64 : Int32) + v10) - (1 : Int32)) / v10)).toNatClampNeg ≤ 512 := by
  have g := own_g10 h
  have e16 : (16 : Int32).toInt = 16 := rfl
  have m : ((16 : Int32) * ((((64 : Int32) + v10) - (1 : Int32)) / v10)).toInt = 16 * ((((64 : Int32) + v10) - (1 : Int32)) / v10).toInt := by rw [own_mul (by rw [e16]; omega), e16]
  refine ⟨by rw [Int32.lt_iff_toInt_lt, m, show (0 : Int32).toInt = 0 from rfl]; omega, ?_⟩
  show Int.toNat _ ≤ 512
  rw [m]; omega
theorem own_g12 {p3 v9 v12 : Int32} {n : Fin 31} (h : own_Rng n.val v9.toInt) (hv12 : v12 = ((1 : Int32) + ((p3 &&& (2147483647 : Int32)) % v9))) : v12 - (1 : Int32) = ((p3 &&& (2147483647 : Int32)) % v9) ∧ ((v12 - (1 : Int32)).toInt64).toBitVec.toNat < 2 ^ (n.val + 1) := by
  have s : v12 - (1 : Int32) = ((p3 &&& (2147483647 : Int32)) % v9) := by rw [hv12, Int32.add_comm, Int32.add_sub_cancel]
  exact ⟨s, by rw [s]; exact own_f11 h rfl⟩
theorem own_nzI {x : Int32} (h : 1 ≤ x.toInt) : ¬ (x = 0) := fun q => by rw [q, show (0 : Int32).toInt = 0 from rfl] at h; omega
theorem own_g2n {v1 : Int32} {n : Fin 31} {z : Int} (h1 : v1.toInt = n.val + 1) (hc : v1 = (1 : Int32)) (r : own_Rng 0 z) : own_Rng n.val z := by
  have e : n.val = 0 := by rw [hc, show (1 : Int32).toInt = 1 from rfl] at h1; omega
  rw [e]; exact r
theorem own_fin {K OB PW AG OJ QQ Q1 SH p2 p3 : Int32} {n : Fin 31} {q4 q5 : Int64} {f15 f16 f18 fA : Nat → Int64} (h1 : K.toInt = n.val + 1) (rng : own_Rng n.val OB.toInt) (hPW : PW = ((64 : Int32) / K)) (hAG : AG = ((1 : Int32) + (p2 &&& (63 : Int32)))) (hOJ : OJ = ((1 : Int32) + ((p3 &&& (2147483647 : Int32)) % OB))) (hQQ : QQ = ((AG - (1 : Int32)) / PW)) (hSH : SH = (((AG - (1 : Int32)) % PW) * K))
    (h15 : f15 = (fun _ => (0 : Int64))) (h16 : f16 = (own_up f15 (QQ.toNatClampNeg) q4)) (hQ1 : Q1 = (QQ + (1 : Int32))) (h18 : f18 = (own_up f16 (Q1.toNatClampNeg) q5))
    (hA : fA = (own_up f18 (((AG - (1 : Int32)) / PW).toNatClampNeg) (((f18 ((AG - (1 : Int32)) / PW).toNatClampNeg) &&& (((((1 : Int64) <<< (K &&& 0x3f).toInt64) - (1 : Int64)) <<< ((((AG - (1 : Int32)) % PW) * K) &&& 0x3f).toInt64) ^^^ (-1 : Int64))) ||| (((OJ - (1 : Int32)).toInt64) <<< ((((AG - (1 : Int32)) % PW) * K) &&& 0x3f).toInt64)))) :
    (((fA QQ.toNatClampNeg) ^^^ q4) &&& (((1 : Int64) <<< (SH &&& 0x3f).toInt64) - (1 : Int64))) = (0 : Int64) ∧
    ((((((fA QQ.toNatClampNeg) ^^^ q4).toUInt64 >>> (SH &&& 0x3f).toInt64.toUInt64).toInt64).toUInt64 >>> (K &&& 0x3f).toInt64.toUInt64).toInt64) = (0 : Int64) ∧
    ((((fA QQ.toNatClampNeg).toUInt64 >>> (SH &&& 0x3f).toInt64.toUInt64).toInt64) &&& (((1 : Int64) <<< (K &&& 0x3f).toInt64) - (1 : Int64))) = ((OJ - (1 : Int32)).toInt64) ∧
    (own_r7 AG fA PW K (((1 : Int64) <<< (K &&& 0x3f).toInt64) - (1 : Int64))) = OJ ∧
    (fA Q1.toNatClampNeg) = q5 ∧ (¬ (QQ = (0 : Int32)) → (fA (QQ - (1 : Int32)).toNatClampNeg) = (0 : Int64)) ∧ (fA 63) = (0 : Int64) := by
  have f5 := own_f5 h1 hPW
  have a := own_g5 hAG
  have q := own_g6 a f5.2.1 hQQ
  have r := own_g7 (a := AG - (1 : Int32)) a.1 f5.2.1
  have s := own_f9 h1 f5.2.2.2 r hSH
  have o := own_g12 rng hOJ
  have e1 := own_g8 q hQ1
  have nq : QQ.toNatClampNeg = QQ.toInt.toNat := rfl
  have n1 : Q1.toNatClampNeg = Q1.toInt.toNat := rfl
  have v0 : f18 QQ.toNatClampNeg = q4 := by
    rw [h18, own_up, if_neg (by rw [nq, n1]; omega), h16, own_up, if_pos rfl]
  have va : fA QQ.toNatClampNeg = (q4 &&& (((((1 : Int64) <<< (K &&& 0x3f).toInt64) - (1 : Int64)) <<< (SH &&& 0x3f).toInt64) ^^^ (-1 : Int64))) ||| (((OJ - (1 : Int32)).toInt64) <<< (SH &&& 0x3f).toInt64) := by
    rw [hA, ← hQQ, ← hSH, own_up, if_pos rfl, v0]
  have vo : ∀ j, j ≠ QQ.toNatClampNeg → fA j = f18 j := fun j hj => by rw [hA, ← hQQ, own_up, if_neg hj]
  have s0 : 0 ≤ SH.toInt := s.1
  have s1 : SH.toInt < 64 := by omega
  have c0 : 0 ≤ K.toInt := by omega
  have c1 : K.toInt < 64 := by omega
  have bA : (fA QQ.toNatClampNeg).toBitVec = (q4.toBitVec &&& ~~~ (((1#64 <<< (n.val + 1)) - 1#64) <<< SH.toInt.toNat)) ||| (((OJ - (1 : Int32)).toInt64).toBitVec <<< SH.toInt.toNat) := by
    rw [va, Int64.toBitVec_or, Int64.toBitVec_and, own_not64, own_shl64 _ s0 s1 rfl, own_shl64 _ s0 s1 rfl, own_mk64 c0 c1 (n := n.val + 1) (by omega)]
  refine ⟨?_, ?_, ?_, ?_, ?_, ?_, ?_⟩
  · rw [← Int64.toBitVec_inj, Int64.toBitVec_and, Int64.toBitVec_xor, bA, own_mk64 s0 s1 rfl]
    exact own_low (own_ones (b := n.val + 1) (by omega)) (by omega)
  · rw [← Int64.toBitVec_inj, own_ushr64 _ c0 c1 (n := n.val + 1) (by omega), own_ushr64 _ s0 s1 rfl, Int64.toBitVec_xor, bA]
    exact own_high (own_ones (b := n.val + 1) (by omega)) o.2
  · rw [va]; exact own_f12 h1 s o.2
  · rw [own_r7, ← hQQ, ← hSH, va, own_f12 h1 s o.2, Int32.toInt32_toInt64, Int32.sub_add_cancel]
  · rw [vo _ (by rw [nq, n1]; omega), h18, own_up, if_pos rfl]
  · intro hne
    have e9 := own_g9 q hne rfl
    have n9 : (QQ - (1 : Int32)).toNatClampNeg = (QQ - (1 : Int32)).toInt.toNat := rfl
    rw [vo _ (by rw [nq, n9]; omega), h18, own_up, if_neg (by rw [n9, n1]; omega), h16, own_up, if_neg (by rw [n9, nq]; omega), h15]
  · rw [vo _ (by rw [nq]; omega), h18, own_up, if_neg (by rw [n1]; omega), h16, own_up, if_neg (by rw [nq]; omega), h15]

theorem pd4 : parseMethodDescriptor "(JJ)J" = some ⟨[.long, .long], some .long⟩ := by decide +kernel
theorem pd5 : parseMethodDescriptor "(II)V" = some ⟨[.int, .int], none⟩ := by decide +kernel
theorem pd6 : parseMethodDescriptor "([JII)V" = some ⟨[(.array .long), .int, .int], none⟩ := by decide +kernel
theorem pd7 : parseMethodDescriptor "([JI)I" = some ⟨[(.array .long), .int], some .int⟩ := by decide +kernel
theorem ef_0 (m : MethodId) (p0 : Int32) (p1 : Int32) (p2 : Int32) (p3 : Int32) (q4 : Int64) (q5 : Int64) : entryFrame m #[(.int p0), (.int p1), (.int p2), (.int p3), (.long q4), (.long q5)] maxLocals = mkF m 0 #[.val (.int p0), .val (.int p1), .val (.int p2), .val (.int p3), .val (.long q4), .second, .val (.long q5), .second, .unset, .unset, .unset, .unset, .unset, .unset, .unset, .unset, .unset, .unset, .unset, .unset, .unset, .unset, .unset, .unset, .unset, .unset, .unset, .unset, .unset, .unset] [] := by (first | (simp [entryFrame, mkF, argsToLocals, Value.category, maxLocals]; done) | rfl)
set_option maxRecDepth 65536 in
theorem own_leaf0 {p0 p1 p2 p3 v1 v9 v10 v11 v12 v13 v14 v17 v23 v25 v27 v29 v31 v33 v35 v36 v38 v46 v47 v48 v49 v50 v51 v52 : Int32} {q4 q5 v8 v20 v21 : Int64} {v15 v16 v18 v19 : Nat → Int64} (hv1 : v1 = ((1 : Int32) + ((p0 &&& (2147483647 : Int32)) % (31 : Int32)))) (hv8 : v8 = (((1 : Int32) + (p1 &&& (1 : Int32))).toInt64)) (hv9 : v9 = (v8.toInt32)) (hv10 : v10 = ((64 : Int32) / v1)) (hv11 : v11 = ((1 : Int32) + (p2 &&& (63 : Int32)))) (hv12 : v12 = ((1 : Int32) + ((p3 &&& (2147483647 : Int32)) % v9))) (hv13 : v13 = ((v11 - (1 : Int32)) / v10)) (hv14 : v14 = (((v11 - (1 : Int32)) % v10) * v1)) (hv15 : v15 = (fun _ => (0 : Int64))) (hv16 : v16 = (own_up v15 (v13.toNatClampNeg) q4)) (hv17 : v17 = (v13 + (1 : Int32))) (hv18 : v18 = (own_up v16 (v17.toNatClampNeg) q5)) (hv19 : v19 = (own_up v18 (((v11 - (1 : Int32)) / v10).toNatClampNeg) (((v18 ((v11 - (1 : Int32)) / v10).toNatClampNeg) &&& (((((1 : Int64) <<< (v1 &&& 0x3f).toInt64) - (1 : Int64)) <<< ((((v11 - (1 : Int32)) % v10) * v1) &&& 0x3f).toInt64) ^^^ (-1 : Int64))) ||| (((v12 - (1 : Int32)).toInt64) <<< ((((v11 - (1 : Int32)) % v10) * v1) &&& 0x3f).toInt64)))) (hv20 : v20 = (((1 : Int64) <<< (v1 &&& 0x3f).toInt64) - (1 : Int64))) (hv21 : v21 = ((v19 v13.toNatClampNeg) ^^^ q4)) (hv23 : v23 = (if (v21 &&& (((1 : Int64) <<< (v14 &&& 0x3f).toInt64) - (1 : Int64))) = (0 : Int64) then (1 : Int32) else (0 : Int32))) (hv25 : v25 = (if ((((v21.toUInt64 >>> (v14 &&& 0x3f).toInt64.toUInt64).toInt64).toUInt64 >>> (v1 &&& 0x3f).toInt64.toUInt64).toInt64) = (0 : Int64) then (1 : Int32) else (0 : Int32))) (hv27 : v27 = (if ((((v19 v13.toNatClampNeg).toUInt64 >>> (v14 &&& 0x3f).toInt64.toUInt64).toInt64) &&& v20) = ((v12 - (1 : Int32)).toInt64) then (1 : Int32) else (0 : Int32))) (hv29 : v29 = (if (own_r7 v11 v19 v10 v1 (((1 : Int64) <<< (v1 &&& 0x3f).toInt64) - (1 : Int64))) = v12 then (1 : Int32) else (0 : Int32))) (hv31 : v31 = (if (v19 v17.toNatClampNeg) = q5 then (1 : Int32) else (0 : Int32))) (hv33 : v33 = (v13 - (1 : Int32))) (hv35 : v35 = (if (v19 v33.toNatClampNeg) = (0 : Int64) then (1 : Int32) else (0 : Int32))) (hv36 : v36 = (if v13 = (0 : Int32) then (1 : Int32) else v35)) (hv38 : v38 = (if (v19 63) = (0 : Int64) then (1 : Int32) else (0 : Int32))) (hv46 : v46 = (if v38 = (0 : Int32) then (0 : Int32) else (1 : Int32))) (hv47 : v47 = (if v36 = (0 : Int32) then (0 : Int32) else v46)) (hv48 : v48 = (if v31 = (0 : Int32) then (0 : Int32) else v47)) (hv49 : v49 = (if v29 = (0 : Int32) then (0 : Int32) else v48)) (hv50 : v50 = (if v27 = (0 : Int32) then (0 : Int32) else v49)) (hv51 : v51 = (if v25 = (0 : Int32) then (0 : Int32) else v50)) (hv52 : v52 = (if v23 = (0 : Int32) then (0 : Int32) else v51)) (hc14_2 : v1 = (1 : Int32)) : v52 = 1 := by
  obtain ⟨n, h, h1⟩ := own_g1 hv1
  obtain ⟨e1, e2, e3, e4, e5, e6, e7⟩ := own_fin h1 (own_g2n h1 hc14_2 (own_g2 hv8 hv9)) hv10 hv11 hv12 hv13 hv14 hv15 hv16 hv17 hv18 hv19
  have b1 : v23 = 1 := by rw [hv23, hv21, if_pos e1]
  have b2 : v25 = 1 := by rw [hv25, hv21, if_pos e2]
  have b3 : v27 = 1 := by rw [hv27, hv20, if_pos e3]
  have b4 : v29 = 1 := by rw [hv29, if_pos e4]
  have b5 : v31 = 1 := by rw [hv31, if_pos e5]
  have b6 : v36 = 1 := by 
    rw [hv36]
    by_cases qz : v13 = (0 : Int32)
    · rw [if_pos qz]
    · rw [if_neg qz, hv35, hv33, if_pos (e6 qz)]
  have b7 : v38 = 1 := by rw [hv38, if_pos e7]
  simp only [hv52, hv51, hv50, hv49, hv48, hv47, hv46, b1, b2, b3, b4, b5, b6, b7, if_neg (show ¬ ((1 : Int32) = 0) by decide)]
set_option maxRecDepth 65536 in
theorem own_leaf1 {p0 p1 p2 p3 v1 v56 v57 v58 v59 v60 v61 v64 v70 v72 v74 v76 v78 v80 v82 v83 v85 v93 v94 v95 v96 v97 v98 v99 : Int32} {q4 q5 v53 v54 v55 v67 v68 : Int64} {v62 v63 v65 v66 : Nat → Int64} (hv1 : v1 = ((1 : Int32) + ((p0 &&& (2147483647 : Int32)) % (31 : Int32)))) (hv53 : v53 = ((1 : Int64) <<< ((v1 - (1 : Int32)) &&& 0x3f).toInt64)) (hv54 : v54 = ((v53 + (1 : Int64)) + ((p1.toInt64) &&& (v53 - (1 : Int64))))) (hv55 : v55 = (own_r8 (2147483647 : Int64) v54)) (hv56 : v56 = (v55.toInt32)) (hv57 : v57 = ((64 : Int32) / v1)) (hv58 : v58 = ((1 : Int32) + (p2 &&& (63 : Int32)))) (hv59 : v59 = ((1 : Int32) + ((p3 &&& (2147483647 : Int32)) % v56))) (hv60 : v60 = ((v58 - (1 : Int32)) / v57)) (hv61 : v61 = (((v58 - (1 : Int32)) % v57) * v1)) (hv62 : v62 = (fun _ => (0 : Int64))) (hv63 : v63 = (own_up v62 (v60.toNatClampNeg) q4)) (hv64 : v64 = (v60 + (1 : Int32))) (hv65 : v65 = (own_up v63 (v64.toNatClampNeg) q5)) (hv66 : v66 = (own_up v65 (((v58 - (1 : Int32)) / v57).toNatClampNeg) (((v65 ((v58 - (1 : Int32)) / v57).toNatClampNeg) &&& (((((1 : Int64) <<< (v1 &&& 0x3f).toInt64) - (1 : Int64)) <<< ((((v58 - (1 : Int32)) % v57) * v1) &&& 0x3f).toInt64) ^^^ (-1 : Int64))) ||| (((v59 - (1 : Int32)).toInt64) <<< ((((v58 - (1 : Int32)) % v57) * v1) &&& 0x3f).toInt64)))) (hv67 : v67 = (((1 : Int64) <<< (v1 &&& 0x3f).toInt64) - (1 : Int64))) (hv68 : v68 = ((v66 v60.toNatClampNeg) ^^^ q4)) (hv70 : v70 = (if (v68 &&& (((1 : Int64) <<< (v61 &&& 0x3f).toInt64) - (1 : Int64))) = (0 : Int64) then (1 : Int32) else (0 : Int32))) (hv72 : v72 = (if ((((v68.toUInt64 >>> (v61 &&& 0x3f).toInt64.toUInt64).toInt64).toUInt64 >>> (v1 &&& 0x3f).toInt64.toUInt64).toInt64) = (0 : Int64) then (1 : Int32) else (0 : Int32))) (hv74 : v74 = (if ((((v66 v60.toNatClampNeg).toUInt64 >>> (v61 &&& 0x3f).toInt64.toUInt64).toInt64) &&& v67) = ((v59 - (1 : Int32)).toInt64) then (1 : Int32) else (0 : Int32))) (hv76 : v76 = (if (own_r7 v58 v66 v57 v1 (((1 : Int64) <<< (v1 &&& 0x3f).toInt64) - (1 : Int64))) = v59 then (1 : Int32) else (0 : Int32))) (hv78 : v78 = (if (v66 v64.toNatClampNeg) = q5 then (1 : Int32) else (0 : Int32))) (hv80 : v80 = (v60 - (1 : Int32))) (hv82 : v82 = (if (v66 v80.toNatClampNeg) = (0 : Int64) then (1 : Int32) else (0 : Int32))) (hv83 : v83 = (if v60 = (0 : Int32) then (1 : Int32) else v82)) (hv85 : v85 = (if (v66 63) = (0 : Int64) then (1 : Int32) else (0 : Int32))) (hv93 : v93 = (if v85 = (0 : Int32) then (0 : Int32) else (1 : Int32))) (hv94 : v94 = (if v83 = (0 : Int32) then (0 : Int32) else v93)) (hv95 : v95 = (if v78 = (0 : Int32) then (0 : Int32) else v94)) (hv96 : v96 = (if v76 = (0 : Int32) then (0 : Int32) else v95)) (hv97 : v97 = (if v74 = (0 : Int32) then (0 : Int32) else v96)) (hv98 : v98 = (if v72 = (0 : Int32) then (0 : Int32) else v97)) (hv99 : v99 = (if v70 = (0 : Int32) then (0 : Int32) else v98)) (hc14_2 : ¬ (v1 = (1 : Int32))) : v99 = 1 := by
  obtain ⟨n, h, h1⟩ := own_g1 hv1
  obtain ⟨e1, e2, e3, e4, e5, e6, e7⟩ := own_fin h1 (own_g3 h1 hc14_2 hv53 hv54 hv55 hv56) hv57 hv58 hv59 hv60 hv61 hv62 hv63 hv64 hv65 hv66
  have b1 : v70 = 1 := by rw [hv70, hv68, if_pos e1]
  have b2 : v72 = 1 := by rw [hv72, hv68, if_pos e2]
  have b3 : v74 = 1 := by rw [hv74, hv67, if_pos e3]
  have b4 : v76 = 1 := by rw [hv76, if_pos e4]
  have b5 : v78 = 1 := by rw [hv78, if_pos e5]
  have b6 : v83 = 1 := by 
    rw [hv83]
    by_cases qz : v60 = (0 : Int32)
    · rw [if_pos qz]
    · rw [if_neg qz, hv82, hv80, if_pos (e6 qz)]
  have b7 : v85 = 1 := by rw [hv85, if_pos e7]
  simp only [hv99, hv98, hv97, hv96, hv95, hv94, hv93, b1, b2, b3, b4, b5, b6, b7, if_neg (show ¬ ((1 : Int32) = 0) by decide)]
theorem pn8 : plainName "com/example/swapgraph/swapgraph/AllocationTableSetPinLaw" = true := by first | (simp [plainName, overriddenIn]; done) | decide +kernel
def Q0 (Z : State) (p0 : Int32) (p1 : Int32) (p2 : Int32) (p3 : Int32) (q4 : Int64) (q5 : Int64) (h0 : Heap) (n0 : Nat) (v : Option Value) (h : Heap) (L : List Loc) : Prop := v = some (.int 1) ∧ Fr n0 L
set_option maxRecDepth 65536 in
set_option maxHeartbeats 40000000 in
theorem rm0 (l : Launch) (Z : State) (a0 : Array Value) (hw : ∀ d ∈ tables_1, d.before a0 Z = true) (ws : List Jvm.Cond) (p0 : Int32) (p1 : Int32) (p2 : Int32) (p3 : Int32) (q4 : Int64) (q5 : Int64) (h0 : Heap) (n0 : Nat) (Z0 : n0 ≤ h0.size) :
    MetFree l x (head1 (Jvm.Cond.code x code maxLocals ret :: ws) room_1) (fun a U => a = #[(.int p0), (.int p1), (.int p2), (.int p3), (.long q4), (.long q5)] ∧ Z.Warmed39 U.vm ∧ U.heap = h0) (fun _ _ _ _ _ => True) (fun _ U o U' => ∃ v L, o = .returned v ∧ Q0 Z p0 p1 p2 p3 q4 q5 h0 n0 v U'.heap L ∧ FrameEnd U o U' L room_1.cells room_1.slots) := by
  refine MetFree.of_bodySF (plainFor_of_name pn8) hisR ?_
  intro p e s m args below meth c s₁ Bd hml0 hP hK
  obtain ⟨rfl, hZ, hh⟩ := hP
  have hx := Bd.exec
  have hby := Bd.bytes
  have hml : c.maxLocals = 30 := hml0
  have hown : s.vm.findClass "com/example/swapgraph/swapgraph/AllocationTableSetPinLaw" = some m.cls := findClass_of_methodNamed Bd.named
  have hnm := (name_of_methodNamed Bd.named Bd.method).1
  have X0 : Stand p l e room_1 s m #[(.int p0), (.int p1), (.int p2), (.int p3), (.long q4), (.long q5)] below meth c s₁ [] 0 0 := Stand.of_body Bd
  have e0 : s₁.heap = h0 := by rw [← hh, Bd.state]; rfl
  have N0 := Fr.nil n0
  have K0 : Keep h0 h0 [] := Keep.refl h0 _
  show own_Go p e below s (Q0 Z p0 p1 p2 p3 q4 q5 h0 n0) room_1.cells room_1.slots (s₁.setTop (entryFrame m #[(.int p0), (.int p1), (.int p2), (.int p3), (.long q4), (.long q5)] maxLocals))
  refine own_go (fun t k => castTop (ef_0 m p0 p1 p2 p3 q4 q5) k) ?_
  have hnz7_101 : ¬ ((31 : Int32) = (0 : Int32)) := by decide
  obtain ⟨v1, hv1⟩ : ∃ z : Int32, z = ((1 : Int32) + ((p0 &&& (2147483647 : Int32)) % (31 : Int32))) := ⟨_, rfl⟩
  have hgo105 : ∀ t, Steps p.tables e below (s₁.setTop (mkF m 14 #[.val (.int p0), .val (.int p1), .val (.int p2), .val (.int p3), .val (.long q4), .second, .val (.long q5), .second, .val (.int v1), .unset, .unset, .unset, .unset, .unset, .unset, .unset, .unset, .unset, .unset, .unset, .unset, .unset, .unset, .unset, .unset, .unset, .unset, .unset, .unset, .unset] [(.int (1 : Int32)), (.int v1)])) t → Steps p.tables e below (s₁.setTop (mkF m 0 #[.val (.int p0), .val (.int p1), .val (.int p2), .val (.int p3), .val (.long q4), .second, .val (.long q5), .second, .unset, .unset, .unset, .unset, .unset, .unset, .unset, .unset, .unset, .unset, .unset, .unset, .unset, .unset, .unset, .unset, .unset, .unset, .unset, .unset, .unset, .unset] [])) t := by
    intro t kt
    show Steps p.tables e below (s₁.setTop (mkF m 0 #[.val (.int p0), .val (.int p1), .val (.int p2), .val (.int p3), .val (.long q4), .second, .val (.long q5), .second, .unset, .unset, .unset, .unset, .unset, .unset, .unset, .unset, .unset, .unset, .unset, .unset, .unset, .unset, .unset, .unset, .unset, .unset, .unset, .unset, .unset, .unset] [])) _
    refine XS.iconst X0.here hx rfl (hb hby at_0) ?_
    show Steps p.tables e below (s₁.setTop (mkF m 1 #[.val (.int p0), .val (.int p1), .val (.int p2), .val (.int p3), .val (.long q4), .second, .val (.long q5), .second, .unset, .unset, .unset, .unset, .unset, .unset, .unset, .unset, .unset, .unset, .unset, .unset, .unset, .unset, .unset, .unset, .unset, .unset, .unset, .unset, .unset, .unset] [(.int (1 : Int32))])) _
    refine XS.iloadN X0.here hx rfl (hb hby at_1) rfl ?_
    show Steps p.tables e below (s₁.setTop (mkF m 2 #[.val (.int p0), .val (.int p1), .val (.int p2), .val (.int p3), .val (.long q4), .second, .val (.long q5), .second, .unset, .unset, .unset, .unset, .unset, .unset, .unset, .unset, .unset, .unset, .unset, .unset, .unset, .unset, .unset, .unset, .unset, .unset, .unset, .unset, .unset, .unset] [(.int p0), (.int (1 : Int32))])) _
    refine X0.ldcInt hx hown (mvT hZ (hw _ (List.mem_of_getElem? (i := 0) rfl))) (g := (mkF m 2 #[.val (.int p0), .val (.int p1), .val (.int p2), .val (.int p3), .val (.long q4), .second, .val (.long q5), .second, .unset, .unset, .unset, .unset, .unset, .unset, .unset, .unset, .unset, .unset, .unset, .unset, .unset, .unset, .unset, .unset, .unset, .unset, .unset, .unset, .unset, .unset] [(.int p0), (.int (1 : Int32))])) rfl (hb hby at_2) _ ?_
    show Steps p.tables e below (s₁.setTop (mkF m 4 #[.val (.int p0), .val (.int p1), .val (.int p2), .val (.int p3), .val (.long q4), .second, .val (.long q5), .second, .unset, .unset, .unset, .unset, .unset, .unset, .unset, .unset, .unset, .unset, .unset, .unset, .unset, .unset, .unset, .unset, .unset, .unset, .unset, .unset, .unset, .unset] [(.int (2147483647 : Int32)), (.int p0), (.int (1 : Int32))])) _
    refine XS.iand X0.here hx rfl (hb hby at_4) rfl ?_
    show Steps p.tables e below (s₁.setTop (mkF m 5 #[.val (.int p0), .val (.int p1), .val (.int p2), .val (.int p3), .val (.long q4), .second, .val (.long q5), .second, .unset, .unset, .unset, .unset, .unset, .unset, .unset, .unset, .unset, .unset, .unset, .unset, .unset, .unset, .unset, .unset, .unset, .unset, .unset, .unset, .unset, .unset] [(.int (p0 &&& (2147483647 : Int32))), (.int (1 : Int32))])) _
    refine XS.bipush X0.here hx rfl (hb hby at_5) ?_
    show Steps p.tables e below (s₁.setTop (mkF m 7 #[.val (.int p0), .val (.int p1), .val (.int p2), .val (.int p3), .val (.long q4), .second, .val (.long q5), .second, .unset, .unset, .unset, .unset, .unset, .unset, .unset, .unset, .unset, .unset, .unset, .unset, .unset, .unset, .unset, .unset, .unset, .unset, .unset, .unset, .unset, .unset] [(.int (31 : Int32)), (.int (p0 &&& (2147483647 : Int32))), (.int (1 : Int32))])) _
    refine XS.irem X0.here hx rfl (hb hby at_7) rfl hnz7_101 ?_
    rw [own_remI (p0 &&& (2147483647 : Int32)) (31 : Int32)]
    show Steps p.tables e below (s₁.setTop (mkF m 8 #[.val (.int p0), .val (.int p1), .val (.int p2), .val (.int p3), .val (.long q4), .second, .val (.long q5), .second, .unset, .unset, .unset, .unset, .unset, .unset, .unset, .unset, .unset, .unset, .unset, .unset, .unset, .unset, .unset, .unset, .unset, .unset, .unset, .unset, .unset, .unset] [(.int ((p0 &&& (2147483647 : Int32)) % (31 : Int32))), (.int (1 : Int32))])) _
    refine XS.iadd X0.here hx rfl (hb hby at_8) rfl ?_
    show Steps p.tables e below (s₁.setTop (mkF m 9 #[.val (.int p0), .val (.int p1), .val (.int p2), .val (.int p3), .val (.long q4), .second, .val (.long q5), .second, .unset, .unset, .unset, .unset, .unset, .unset, .unset, .unset, .unset, .unset, .unset, .unset, .unset, .unset, .unset, .unset, .unset, .unset, .unset, .unset, .unset, .unset] [(.int ((1 : Int32) + ((p0 &&& (2147483647 : Int32)) % (31 : Int32))))])) _
    rw [← hv1]
    show Steps p.tables e below (s₁.setTop (mkF m 9 #[.val (.int p0), .val (.int p1), .val (.int p2), .val (.int p3), .val (.long q4), .second, .val (.long q5), .second, .unset, .unset, .unset, .unset, .unset, .unset, .unset, .unset, .unset, .unset, .unset, .unset, .unset, .unset, .unset, .unset, .unset, .unset, .unset, .unset, .unset, .unset] [(.int v1)])) _
    refine XS.istore X0.here hx rfl (hb hby at_9) rfl (l' := #[.val (.int p0), .val (.int p1), .val (.int p2), .val (.int p3), .val (.long q4), .second, .val (.long q5), .second, .val (.int v1), .unset, .unset, .unset, .unset, .unset, .unset, .unset, .unset, .unset, .unset, .unset, .unset, .unset, .unset, .unset, .unset, .unset, .unset, .unset, .unset, .unset]) rfl ?_
    show Steps p.tables e below (s₁.setTop (mkF m 11 #[.val (.int p0), .val (.int p1), .val (.int p2), .val (.int p3), .val (.long q4), .second, .val (.long q5), .second, .val (.int v1), .unset, .unset, .unset, .unset, .unset, .unset, .unset, .unset, .unset, .unset, .unset, .unset, .unset, .unset, .unset, .unset, .unset, .unset, .unset, .unset, .unset] [])) _
    refine XS.iload X0.here hx rfl (hb hby at_11) rfl ?_
    show Steps p.tables e below (s₁.setTop (mkF m 13 #[.val (.int p0), .val (.int p1), .val (.int p2), .val (.int p3), .val (.long q4), .second, .val (.long q5), .second, .val (.int v1), .unset, .unset, .unset, .unset, .unset, .unset, .unset, .unset, .unset, .unset, .unset, .unset, .unset, .unset, .unset, .unset, .unset, .unset, .unset, .unset, .unset] [(.int v1)])) _
    refine XS.iconst X0.here hx rfl (hb hby at_13) ?_
    exact kt
  refine own_go hgo105 ?_
  by_cases hc14_2 : v1 = (1 : Int32)
  · obtain ⟨v8, hv8⟩ : ∃ z : Int64, z = (((1 : Int32) + (p1 &&& (1 : Int32))).toInt64) := ⟨_, rfl⟩
    obtain ⟨v9, hv9⟩ : ∃ z : Int32, z = (v8.toInt32) := ⟨_, rfl⟩
    have hnz65_106 : ¬ (v1 = (0 : Int32)) := by obtain ⟨n, h, h1⟩ := own_g1 hv1; exact own_nzI (by omega)
    obtain ⟨v10, hv10⟩ : ∃ z : Int32, z = ((64 : Int32) / v1) := ⟨_, rfl⟩
    obtain ⟨v11, hv11⟩ : ∃ z : Int32, z = ((1 : Int32) + (p2 &&& (63 : Int32))) := ⟨_, rfl⟩
    have hnz83_107 : ¬ (v9 = (0 : Int32)) := by obtain ⟨n, h, h1⟩ := own_g1 hv1; exact own_nzI (own_g2n h1 hc14_2 (own_g2 hv8 hv9)).1
    obtain ⟨v12, hv12⟩ : ∃ z : Int32, z = ((1 : Int32) + ((p3 &&& (2147483647 : Int32)) % v9)) := ⟨_, rfl⟩
    have hnz93_108 : ¬ (v10 = (0 : Int32)) := by obtain ⟨n, h, h1⟩ := own_g1 hv1; exact own_nzI (by have q := (own_f5 h1 hv10); omega)
    obtain ⟨v13, hv13⟩ : ∃ z : Int32, z = ((v11 - (1 : Int32)) / v10) := ⟨_, rfl⟩
    have hnz102_109 : ¬ (v10 = (0 : Int32)) := by obtain ⟨n, h, h1⟩ := own_g1 hv1; exact own_nzI (by have q := (own_f5 h1 hv10); omega)
    obtain ⟨v14, hv14⟩ : ∃ z : Int32, z = (((v11 - (1 : Int32)) % v10) * v1) := ⟨_, rfl⟩
    obtain ⟨T110, h110, k110, X110, e110, E110, A110, st110⟩ := newP X0 hx hZ (hw _ (List.mem_of_getElem? (i := 1) rfl)) e0 (g := (mkF m 110 #[.val (.int p0), .val (.int p1), .val (.int p2), .val (.int p3), .val (.long q4), .second, .val (.long q5), .second, .val (.int v1), .val (.long v8), .second, .val (.int v9), .val (.int v10), .val (.int v11), .val (.int v12), .val (.int v13), .val (.int v14), .unset, .unset, .unset, .unset, .unset, .unset, .unset, .unset, .unset, .unset, .unset, .unset, .unset] [(.int (64 : Int32))])) rfl (hb hby at_110) rfl (by decide) (cap := 64) (by decide) (by decide) (by decide) (by decide)
    obtain ⟨b110, g110⟩ : ∃ z, z = h0.size := ⟨_, rfl⟩
    rw [← g110] at A110 st110
    have g_b110 : n0 ≤ b110 := Nat.le_trans Z0 (Nat.le_of_eq g110.symm)
    have sz_b110 : h0.size ≤ b110 := Nat.le_trans K0.1 (Nat.le_of_eq g110.symm)
    have Z111 : n0 ≤ h110.size := Nat.le_trans Z0 E110.1
    have K112 : Keep h0 h110 [] := K0.ext E110
    obtain ⟨v15, hv15⟩ : ∃ z : Nat → Int64, z = (fun _ => (0 : Int64)) := ⟨_, rfl⟩
    have F113 : own_AJ Z h110 b110 .long 64 v15 := by rw [hv15]; exact own_AJ.new A110 rfl (by decide)
    have hin120_114 : ¬ v13 < 0 ∧ v13.toNatClampNeg < 64 := by obtain ⟨n, h, h1⟩ := own_g1 hv1; have g := (own_g6 (own_g5 hv11) (own_f5 h1 hv10).2.1 hv13); exact own_ix g.1 (by omega)
    obtain ⟨T115, h115, X115, e115, W115, B115, st115⟩ := own_stJ X110 hx hZ e110 F113 (j := v13) (x := q4) hin120_114 (g := (mkF m 120 #[.val (.int p0), .val (.int p1), .val (.int p2), .val (.int p3), .val (.long q4), .second, .val (.long q5), .second, .val (.int v1), .val (.long v8), .second, .val (.int v9), .val (.int v10), .val (.int v11), .val (.int v12), .val (.int v13), .val (.int v14), .val (.ref b110), .unset, .unset, .unset, .unset, .unset, .unset, .unset, .unset, .unset, .unset, .unset, .unset] [(.long q4), (.int v13), (.ref b110)])) rfl rfl (hb hby at_120)
    obtain ⟨v16, hv16⟩ : ∃ z : Nat → Int64, z = (own_up v15 (v13.toNatClampNeg) q4) := ⟨_, rfl⟩
    have B115n : own_AJ Z h115 b110 .long 64 v16 := by rw [hv16]; exact B115
    have Z116 : n0 ≤ h115.size := Nat.le_trans Z111 (Keep.of_wr W115).1
    have K117 : Keep h0 h115 [] := K112.wr W115 (Or.inr sz_b110)
    have N118 := Fr.snoc X115 N0 g_b110
    obtain ⟨v17, hv17⟩ : ∃ z : Int32, z = (v13 + (1 : Int32)) := ⟨_, rfl⟩
    have hin129_119 : ¬ v17 < 0 ∧ v17.toNatClampNeg < 64 := by obtain ⟨n, h, h1⟩ := own_g1 hv1; have g := (own_g6 (own_g5 hv11) (own_f5 h1 hv10).2.1 hv13); have e := own_g8 g hv17; exact own_ix (by omega) (by omega)
    obtain ⟨T120, h120, X120, e120, W120, B120, st120⟩ := own_stJ X115 hx hZ e115 B115n (j := v17) (x := q5) hin129_119 (g := (mkF m 129 #[.val (.int p0), .val (.int p1), .val (.int p2), .val (.int p3), .val (.long q4), .second, .val (.long q5), .second, .val (.int v1), .val (.long v8), .second, .val (.int v9), .val (.int v10), .val (.int v11), .val (.int v12), .val (.int v13), .val (.int v14), .val (.ref b110), .unset, .unset, .unset, .unset, .unset, .unset, .unset, .unset, .unset, .unset, .unset, .unset] [(.long q5), (.int v17), (.ref b110)])) rfl rfl (hb hby at_129)
    obtain ⟨v18, hv18⟩ : ∃ z : Nat → Int64, z = (own_up v16 (v17.toNatClampNeg) q5) := ⟨_, rfl⟩
    have B120n : own_AJ Z h120 b110 .long 64 v18 := by rw [hv18]; exact B120
    have Z121 : n0 ≤ h120.size := Nat.le_trans Z116 (Keep.of_wr W120).1
    have K122 : Keep h0 h120 [] := K117.wr W120 (Or.inr sz_b110)
    have N123 := Fr.snoc X120 N118 g_b110
    obtain ⟨T124, h124, X124, e124, E124, A124, D124, -, st124⟩ := newO X120 hx hZ hown (hw _ (List.mem_of_getElem? (i := 2) rfl)) (hw _ (List.mem_of_getElem? (i := 3) rfl)) (hw _ (List.mem_of_getElem? (i := 4) rfl)) e120 (g := (mkF m 130 #[.val (.int p0), .val (.int p1), .val (.int p2), .val (.int p3), .val (.long q4), .second, .val (.long q5), .second, .val (.int v1), .val (.long v8), .second, .val (.int v9), .val (.int v10), .val (.int v11), .val (.int v12), .val (.int v13), .val (.int v14), .val (.ref b110), .unset, .unset, .unset, .unset, .unset, .unset, .unset, .unset, .unset, .unset, .unset, .unset] [])) rfl (hb hby at_130) (by decide) (by decide)
    obtain ⟨b124, g124⟩ : ∃ z, z = h120.size := ⟨_, rfl⟩
    rw [← g124] at A124 D124 st124
    have ne_b110_b124 : b110 ≠ b124 := Nat.ne_of_lt (Nat.lt_of_lt_of_le B120n.lt (Nat.le_of_eq g124.symm))
    have g_b124 : n0 ≤ b124 := Nat.le_trans Z121 (Nat.le_of_eq g124.symm)
    have sz_b124 : h0.size ≤ b124 := Nat.le_trans K122.1 (Nat.le_of_eq g124.symm)
    have F125 := B120n.ext E124
    have Z126 : n0 ≤ h124.size := Nat.le_trans Z121 E124.1
    have K127 : Keep h0 h124 [] := K122.ext E124
    have F128 : Fld Z h124 b124 "com/example/swapgraph/swapgraph/AllocationTable" "agents" "I" (.int (0 : Int32)) := D124 (Or.inr (hw _ (List.mem_of_getElem? (i := 12) rfl))) (ty := .int) (by decide)
    have F129 : Fld Z h124 b124 "com/example/swapgraph/swapgraph/AllocationTable" "bits" "I" (.int (0 : Int32)) := D124 (Or.inr (hw _ (List.mem_of_getElem? (i := 23) rfl))) (ty := .int) (by decide)
    have F130 : Fld Z h124 b124 "com/example/swapgraph/swapgraph/AllocationTable" "perWord" "I" (.int (0 : Int32)) := D124 (Or.inr (hw _ (List.mem_of_getElem? (i := 25) rfl))) (ty := .int) (by decide)
    have F131 : Fld Z h124 b124 "com/example/swapgraph/swapgraph/AllocationTable" "words" "I" (.int (0 : Int32)) := D124 (Or.inr (hw _ (List.mem_of_getElem? (i := 27) rfl))) (ty := .int) (by decide)
    have F132 : Fld Z h124 b124 "com/example/swapgraph/swapgraph/AllocationTable" "fieldMask" "J" (.long (0 : Int64)) := D124 (Or.inr (hw _ (List.mem_of_getElem? (i := 29) rfl))) (ty := .long) (by decide)
    have F133 : Fld Z h124 b124 "com/example/swapgraph/swapgraph/AllocationTable" "limit" "I" (.int (0 : Int32)) := D124 (Or.inr (hw _ (List.mem_of_getElem? (i := 36) rfl))) (ty := .int) (by decide)
    have F134 : Fld Z h124 b124 "com/example/swapgraph/swapgraph/AllocationTable" "packed" "[J" .null := D124 (Or.inl (hw _ (List.mem_of_getElem? (i := 38) rfl))) (ty := (.array .long)) (by decide)
    have F135 : Fld Z h124 b124 "com/example/swapgraph/swapgraph/AllocationTable" "slots" "[I" .null := D124 (Or.inl (hw _ (List.mem_of_getElem? (i := 41) rfl))) (ty := (.array .int)) (by decide)
    obtain ⟨_, _, ⟨T136, L136, k136, n136⟩, -, X136, ⟨Lc136, hQ136, l136, y136, z136⟩, st136⟩ := X124.specialBack hx (y := (⟨"com/example/swapgraph/swapgraph/AllocationTable", "<init>", "(II)V"⟩ : MethodName)) rfl hown (mvT hZ (hw _ (List.mem_of_getElem? (i := 5) rfl))) (mvT hZ (hw _ (List.mem_of_getElem? (i := 6) rfl))) (mvT hZ (hw _ (List.mem_of_getElem? (i := 7) rfl))) (by decide) (backOf (W := 1) (rm1 l Z a0 hw [] b124 (64 : Int32) v9 v1 v10 ((((64 : Int32) + v10) - (1 : Int32)) / v10) ((16 : Int32) * ((((64 : Int32) + v10) - (1 : Int32)) / v10)) (0 : Int32) (0 : Int32) (0 : Int32) (0 : Int32) (0 : Int64) (0 : Int32) .null .null h124 n0 Z126 (by obtain ⟨n, h, h1⟩ := own_g1 hv1; exact own_f4 h1 (own_g2n h1 hc14_2 (own_g2 hv8 hv9)) : own_r4 (1 : Int32) ((32 : Int32) - (own_r3 (v9 - (1 : Int32)))) = v1) (hv10.symm : ((64 : Int32) / v1) = v10) (rfl : ((((64 : Int32) + v10) - (1 : Int32)) / v10) = ((((64 : Int32) + v10) - (1 : Int32)) / v10)) (rfl : ((16 : Int32) * ((((64 : Int32) + v10) - (1 : Int32)) / v10)) = ((16 : Int32) * ((((64 : Int32) + v10) - (1 : Int32)) / v10))) (by obtain ⟨n, h, h1⟩ := own_g1 hv1; exact own_nzI (by omega) : ¬ (v1 = (0 : Int32))) (by obtain ⟨n, h, h1⟩ := own_g1 hv1; exact own_nzI (by have q := (own_f5 h1 hv10); omega) : ¬ (v10 = (0 : Int32))) (by obtain ⟨n, h, h1⟩ := own_g1 hv1; exact own_nzI (own_g10 (by have q := (own_f5 h1 hv10); omega)).1 : ¬ (((((64 : Int32) + v10) - (1 : Int32)) / v10) = (0 : Int32))) (by obtain ⟨n, h, h1⟩ := own_g1 hv1; exact (own_g11 (by have q := (own_f5 h1 hv10); omega)).1 : ¬ ((16 : Int32) * ((((64 : Int32) + v10) - (1 : Int32)) / v10)) < 0) (by obtain ⟨n, h, h1⟩ := own_g1 hv1; exact (own_g11 (by have q := (own_f5 h1 hv10); omega)).2 : ((16 : Int32) * ((((64 : Int32) + v10) - (1 : Int32)) / v10)).toNatClampNeg ≤ 512) A124 F128 F129 F130 F131 F132 F133 F134 F135 g_b124) hZ (hw _ (List.mem_of_getElem? (i := 7) rfl)) (hw _ (List.mem_of_getElem? (i := 4) rfl)) (by decide) (by decide)) (g := (mkF m 138 #[.val (.int p0), .val (.int p1), .val (.int p2), .val (.int p3), .val (.long q4), .second, .val (.long q5), .second, .val (.int v1), .val (.long v8), .second, .val (.int v9), .val (.int v10), .val (.int v11), .val (.int v12), .val (.int v13), .val (.int v14), .val (.ref b110), .unset, .unset, .unset, .unset, .unset, .unset, .unset, .unset, .unset, .unset, .unset, .unset] [(.int v9), (.int (64 : Int32)), (.ref b124), (.ref b124)])) rfl (by rw [hml]; rfl) (Steps.refl _) (a := b124) (argsL := [(.int (64 : Int32)), (.int v9)]) (rest := [(.ref b124)]) (lenOf pd5 rfl) rfl (by show 2 * 0 + _ ≤ _; exact Nat.le_of_eq rfl) (hb hby at_138) (fun _ _ => ⟨rfl, e124, (by decide : 2 + 2 ≤ _), (by decide : 73 + 544 ≤ _)⟩)
    dsimp only [Pt.U, Pt.locs, Pt.cells, Pt.slots] at X136 l136 y136 z136 st136 hQ136
    subst l136 y136 z136
    obtain ⟨rfl, N136q, K136q, F136_0, F136_1, F136_2, F136_3⟩ := hQ136
    have F137 := F125.keep K136q (ninS ne_b110_b124 nin0)
    have F138 := A124.keep K136q
    have Z139 : n0 ≤ T136.heap.size := Nat.le_trans Z126 K136q.1
    have K140 : Keep h0 T136.heap [] := K127.trans K136q (allS (Or.inr sz_b124) all0)
    have N136 := Fr.app N123 N136q
    obtain ⟨cq141, kq141, q141a, q141b, q141c⟩ := isOf hZ (rfl : T136.heap = T136.heap) F136_0
    obtain ⟨_, _, ⟨T141, L141, k141, n141⟩, -, X141, ⟨Lc141, hQ141, l141, y141, z141⟩, st141⟩ := X136.virtualBack hx (y := (⟨"com/example/swapgraph/swapgraph/AllocationTable", "set", "([JII)V"⟩ : MethodName)) (z := (⟨"com/example/swapgraph/swapgraph/AllocationTable", "set", "([JII)V"⟩ : MethodName)) hown (mvT hZ (hw _ (List.mem_of_getElem? (i := 42) rfl))) (mvT hZ (hw _ (List.mem_of_getElem? (i := 43) rfl))) (notFace_of_selects (args := #[]) (mvT hZ (hw _ (List.mem_of_getElem? (i := 45) rfl)))) (mvT hZ (hw _ (List.mem_of_getElem? (i := 45) rfl))) (mvT hZ (hw _ (List.mem_of_getElem? (i := 44) rfl))) (by decide) (backOf (W := 0) (rm6 l Z a0 hw [] b124 b110 v11 v12 v18 v10 v1 (((1 : Int64) <<< (v1 &&& 0x3f).toInt64) - (1 : Int64)) (T136.heap) n0 Z139 F137 F136_2 (by obtain ⟨n, h, h1⟩ := own_g1 hv1; exact own_nzI (by have q := (own_f5 h1 hv10); omega) : ¬ (v10 = (0 : Int32))) (by obtain ⟨n, h, h1⟩ := own_g1 hv1; have g := (own_g6 (own_g5 hv11) (own_f5 h1 hv10).2.1 rfl); exact own_ix g.1 (by omega) : ¬ ((v11 - (1 : Int32)) / v10) < 0 ∧ ((v11 - (1 : Int32)) / v10).toNatClampNeg < 64) F136_1 F136_3 (Ne.symm ne_b110_b124) g_b110) hZ (hw _ (List.mem_of_getElem? (i := 46) rfl)) (hw _ (List.mem_of_getElem? (i := 4) rfl)) (by decide) (by decide)) q141a q141c (g := (mkF m 151 #[.val (.int p0), .val (.int p1), .val (.int p2), .val (.int p3), .val (.long q4), .second, .val (.long q5), .second, .val (.int v1), .val (.long v8), .second, .val (.int v9), .val (.int v10), .val (.int v11), .val (.int v12), .val (.int v13), .val (.int v14), .val (.ref b110), .val (.ref b124), .unset, .unset, .unset, .unset, .unset, .unset, .unset, .unset, .unset, .unset, .unset] [(.int v12), (.int v11), (.ref b110), (.ref b124)])) rfl (by rw [hml]; rfl) (Steps.refl _) (argsL := [(.ref b110), (.int v11), (.int v12)]) (rest := []) (lenOf pd6 rfl) rfl (by show 2 * 0 + _ ≤ _; exact Nat.le_of_eq rfl) (hb hby at_151) (fun _ _ => ⟨rfl, (rfl : T136.heap = T136.heap), (by decide : 4 + 0 ≤ _), (by decide : 617 + 0 ≤ _)⟩)
    dsimp only [Pt.U, Pt.locs, Pt.cells, Pt.slots] at X141 l141 y141 z141 st141 hQ141
    subst l141 y141 z141
    obtain ⟨rfl, N141q, K141q, F141_0⟩ := hQ141
    have F142 := F136_0.keep K141q
    have F143 := F136_1.keep K141q (ninS (Ne.symm ne_b110_b124) nin0)
    have F144 := F136_2.keep K141q (ninS (Ne.symm ne_b110_b124) nin0)
    have F145 := F136_3.keep K141q (ninS (Ne.symm ne_b110_b124) nin0)
    have Z146 : n0 ≤ T141.heap.size := Nat.le_trans Z139 K141q.1
    have K147 : Keep h0 T141.heap [] := K140.trans K141q (allS (Or.inr sz_b110) all0)
    obtain ⟨v19, hv19⟩ : ∃ z : Nat → Int64, z = (own_up v18 (((v11 - (1 : Int32)) / v10).toNatClampNeg) (((v18 ((v11 - (1 : Int32)) / v10).toNatClampNeg) &&& (((((1 : Int64) <<< (v1 &&& 0x3f).toInt64) - (1 : Int64)) <<< ((((v11 - (1 : Int32)) % v10) * v1) &&& 0x3f).toInt64) ^^^ (-1 : Int64))) ||| (((v12 - (1 : Int32)).toInt64) <<< ((((v11 - (1 : Int32)) % v10) * v1) &&& 0x3f).toInt64))) := ⟨_, rfl⟩
    have F141_0n : own_AJ Z T141.heap b110 .long 64 v19 := by rw [hv19]; exact F141_0
    have N141 := Fr.app N136 N141q
    obtain ⟨v20, hv20⟩ : ∃ z : Int64, z = (((1 : Int64) <<< (v1 &&& 0x3f).toInt64) - (1 : Int64)) := ⟨_, rfl⟩
    have hin166_148 : ¬ v13 < 0 ∧ v13.toNatClampNeg < 64 := by obtain ⟨n, h, h1⟩ := own_g1 hv1; have g := (own_g6 (own_g5 hv11) (own_f5 h1 hv10).2.1 hv13); exact own_ix g.1 (by omega)
    obtain ⟨v21, hv21⟩ : ∃ z : Int64, z = ((v19 v13.toNatClampNeg) ^^^ q4) := ⟨_, rfl⟩
    obtain ⟨v23, hv23⟩ : ∃ z : Int32, z = (if (v21 &&& (((1 : Int64) <<< (v14 &&& 0x3f).toInt64) - (1 : Int64))) = (0 : Int64) then (1 : Int32) else (0 : Int32)) := ⟨_, rfl⟩
    obtain ⟨T151, lc151, X151, N151, e151, st151⟩ := own_mrg (n0 := n0) (h := T141.heap) (g := (mkF m 183 #[.val (.int p0), .val (.int p1), .val (.int p2), .val (.int p3), .val (.long q4), .second, .val (.long q5), .second, .val (.int v1), .val (.long v8), .second, .val (.int v9), .val (.int v10), .val (.int v11), .val (.int v12), .val (.int v13), .val (.int v14), .val (.ref b110), .val (.ref b124), .val (.long v20), .second, .val (.long v21), .second, .unset, .unset, .unset, .unset, .unset, .unset, .unset] [(.int (lcmpW (v21 &&& (((1 : Int64) <<< (v14 &&& 0x3f).toInt64) - (1 : Int64))) (0 : Int64)))])) (g' := (mkF m 191 #[.val (.int p0), .val (.int p1), .val (.int p2), .val (.int p3), .val (.long q4), .second, .val (.long q5), .second, .val (.int v1), .val (.long v8), .second, .val (.int v9), .val (.int v10), .val (.int v11), .val (.int v12), .val (.int v13), .val (.int v14), .val (.ref b110), .val (.ref b124), .val (.long v20), .second, .val (.long v21), .second, .unset, .unset, .unset, .unset, .unset, .unset, .unset] [(.int v23)])) X141 (by
      by_cases hc183_22 : (v21 &&& (((1 : Int64) <<< (v14 &&& 0x3f).toInt64) - (1 : Int64))) = (0 : Int64)
      · have hgo149 : ∀ t, Steps p.tables e below (T141.setTop (mkF m 191 #[.val (.int p0), .val (.int p1), .val (.int p2), .val (.int p3), .val (.long q4), .second, .val (.long q5), .second, .val (.int v1), .val (.long v8), .second, .val (.int v9), .val (.int v10), .val (.int v11), .val (.int v12), .val (.int v13), .val (.int v14), .val (.ref b110), .val (.ref b124), .val (.long v20), .second, .val (.long v21), .second, .unset, .unset, .unset, .unset, .unset, .unset, .unset] [(.int (1 : Int32))])) t → Steps p.tables e below (T141.setTop (mkF m 183 #[.val (.int p0), .val (.int p1), .val (.int p2), .val (.int p3), .val (.long q4), .second, .val (.long q5), .second, .val (.int v1), .val (.long v8), .second, .val (.int v9), .val (.int v10), .val (.int v11), .val (.int v12), .val (.int v13), .val (.int v14), .val (.ref b110), .val (.ref b124), .val (.long v20), .second, .val (.long v21), .second, .unset, .unset, .unset, .unset, .unset, .unset, .unset] [(.int (lcmpW (v21 &&& (((1 : Int64) <<< (v14 &&& 0x3f).toInt64) - (1 : Int64))) (0 : Int64)))])) t := by
          intro t kt
          show Steps p.tables e below (T141.setTop (mkF m 183 #[.val (.int p0), .val (.int p1), .val (.int p2), .val (.int p3), .val (.long q4), .second, .val (.long q5), .second, .val (.int v1), .val (.long v8), .second, .val (.int v9), .val (.int v10), .val (.int v11), .val (.int v12), .val (.int v13), .val (.int v14), .val (.ref b110), .val (.ref b124), .val (.long v20), .second, .val (.long v21), .second, .unset, .unset, .unset, .unset, .unset, .unset, .unset] [(.int (lcmpW (v21 &&& (((1 : Int64) <<< (v14 &&& 0x3f).toInt64) - (1 : Int64))) (0 : Int64)))])) _
          refine XS.ifNo X141.here hx rfl (hb hby at_183) rfl ((if0 _ _).trans (teq (own_lc_eq hc183_22)).2) ?_
          show Steps p.tables e below (T141.setTop (mkF m 186 #[.val (.int p0), .val (.int p1), .val (.int p2), .val (.int p3), .val (.long q4), .second, .val (.long q5), .second, .val (.int v1), .val (.long v8), .second, .val (.int v9), .val (.int v10), .val (.int v11), .val (.int v12), .val (.int v13), .val (.int v14), .val (.ref b110), .val (.ref b124), .val (.long v20), .second, .val (.long v21), .second, .unset, .unset, .unset, .unset, .unset, .unset, .unset] [])) _
          refine XS.iconst X141.here hx rfl (hb hby at_186) ?_
          show Steps p.tables e below (T141.setTop (mkF m 187 #[.val (.int p0), .val (.int p1), .val (.int p2), .val (.int p3), .val (.long q4), .second, .val (.long q5), .second, .val (.int v1), .val (.long v8), .second, .val (.int v9), .val (.int v10), .val (.int v11), .val (.int v12), .val (.int v13), .val (.int v14), .val (.ref b110), .val (.ref b124), .val (.long v20), .second, .val (.long v21), .second, .unset, .unset, .unset, .unset, .unset, .unset, .unset] [(.int (1 : Int32))])) _
          refine XS.goto X141.here hx rfl (pc0 := 187) (pc' := 191) rfl (hb hby at_187) (by decide) (by decide) ?_
          exact kt
        refine own_arm hgo149 ?_
        exact own_armEnd X141 N141 (rfl : T141.heap = T141.heap) (by rw [hv23.trans (if_pos hc183_22)])
      · have hgo150 : ∀ t, Steps p.tables e below (T141.setTop (mkF m 191 #[.val (.int p0), .val (.int p1), .val (.int p2), .val (.int p3), .val (.long q4), .second, .val (.long q5), .second, .val (.int v1), .val (.long v8), .second, .val (.int v9), .val (.int v10), .val (.int v11), .val (.int v12), .val (.int v13), .val (.int v14), .val (.ref b110), .val (.ref b124), .val (.long v20), .second, .val (.long v21), .second, .unset, .unset, .unset, .unset, .unset, .unset, .unset] [(.int (0 : Int32))])) t → Steps p.tables e below (T141.setTop (mkF m 183 #[.val (.int p0), .val (.int p1), .val (.int p2), .val (.int p3), .val (.long q4), .second, .val (.long q5), .second, .val (.int v1), .val (.long v8), .second, .val (.int v9), .val (.int v10), .val (.int v11), .val (.int v12), .val (.int v13), .val (.int v14), .val (.ref b110), .val (.ref b124), .val (.long v20), .second, .val (.long v21), .second, .unset, .unset, .unset, .unset, .unset, .unset, .unset] [(.int (lcmpW (v21 &&& (((1 : Int64) <<< (v14 &&& 0x3f).toInt64) - (1 : Int64))) (0 : Int64)))])) t := by
          intro t kt
          show Steps p.tables e below (T141.setTop (mkF m 183 #[.val (.int p0), .val (.int p1), .val (.int p2), .val (.int p3), .val (.long q4), .second, .val (.long q5), .second, .val (.int v1), .val (.long v8), .second, .val (.int v9), .val (.int v10), .val (.int v11), .val (.int v12), .val (.int v13), .val (.int v14), .val (.ref b110), .val (.ref b124), .val (.long v20), .second, .val (.long v21), .second, .unset, .unset, .unset, .unset, .unset, .unset, .unset] [(.int (lcmpW (v21 &&& (((1 : Int64) <<< (v14 &&& 0x3f).toInt64) - (1 : Int64))) (0 : Int64)))])) _
          refine XS.ifYes X141.here hx rfl (pc0 := 183) (pc' := 190) rfl (hb hby at_183) rfl ((if0 _ _).trans (feq (own_lc_neq hc183_22)).2) (by decide) (by decide) ?_
          show Steps p.tables e below (T141.setTop (mkF m 190 #[.val (.int p0), .val (.int p1), .val (.int p2), .val (.int p3), .val (.long q4), .second, .val (.long q5), .second, .val (.int v1), .val (.long v8), .second, .val (.int v9), .val (.int v10), .val (.int v11), .val (.int v12), .val (.int v13), .val (.int v14), .val (.ref b110), .val (.ref b124), .val (.long v20), .second, .val (.long v21), .second, .unset, .unset, .unset, .unset, .unset, .unset, .unset] [])) _
          refine XS.iconst X141.here hx rfl (hb hby at_190) ?_
          exact kt
        refine own_arm hgo150 ?_
        exact own_armEnd X141 N141 (rfl : T141.heap = T141.heap) (by rw [hv23.trans (if_neg hc183_22)]))
    obtain ⟨v25, hv25⟩ : ∃ z : Int32, z = (if ((((v21.toUInt64 >>> (v14 &&& 0x3f).toInt64.toUInt64).toInt64).toUInt64 >>> (v1 &&& 0x3f).toInt64.toUInt64).toInt64) = (0 : Int64) then (1 : Int32) else (0 : Int32)) := ⟨_, rfl⟩
    obtain ⟨T154, lc154, X154, N154, e154, st154⟩ := own_mrg (n0 := n0) (h := T141.heap) (g := (mkF m 203 #[.val (.int p0), .val (.int p1), .val (.int p2), .val (.int p3), .val (.long q4), .second, .val (.long q5), .second, .val (.int v1), .val (.long v8), .second, .val (.int v9), .val (.int v10), .val (.int v11), .val (.int v12), .val (.int v13), .val (.int v14), .val (.ref b110), .val (.ref b124), .val (.long v20), .second, .val (.long v21), .second, .val (.int v23), .unset, .unset, .unset, .unset, .unset, .unset] [(.int (lcmpW ((((v21.toUInt64 >>> (v14 &&& 0x3f).toInt64.toUInt64).toInt64).toUInt64 >>> (v1 &&& 0x3f).toInt64.toUInt64).toInt64) (0 : Int64)))])) (g' := (mkF m 211 #[.val (.int p0), .val (.int p1), .val (.int p2), .val (.int p3), .val (.long q4), .second, .val (.long q5), .second, .val (.int v1), .val (.long v8), .second, .val (.int v9), .val (.int v10), .val (.int v11), .val (.int v12), .val (.int v13), .val (.int v14), .val (.ref b110), .val (.ref b124), .val (.long v20), .second, .val (.long v21), .second, .val (.int v23), .unset, .unset, .unset, .unset, .unset, .unset] [(.int v25)])) X151 (by
      by_cases hc203_24 : ((((v21.toUInt64 >>> (v14 &&& 0x3f).toInt64.toUInt64).toInt64).toUInt64 >>> (v1 &&& 0x3f).toInt64.toUInt64).toInt64) = (0 : Int64)
      · have hgo152 : ∀ t, Steps p.tables e below (T151.setTop (mkF m 211 #[.val (.int p0), .val (.int p1), .val (.int p2), .val (.int p3), .val (.long q4), .second, .val (.long q5), .second, .val (.int v1), .val (.long v8), .second, .val (.int v9), .val (.int v10), .val (.int v11), .val (.int v12), .val (.int v13), .val (.int v14), .val (.ref b110), .val (.ref b124), .val (.long v20), .second, .val (.long v21), .second, .val (.int v23), .unset, .unset, .unset, .unset, .unset, .unset] [(.int (1 : Int32))])) t → Steps p.tables e below (T151.setTop (mkF m 203 #[.val (.int p0), .val (.int p1), .val (.int p2), .val (.int p3), .val (.long q4), .second, .val (.long q5), .second, .val (.int v1), .val (.long v8), .second, .val (.int v9), .val (.int v10), .val (.int v11), .val (.int v12), .val (.int v13), .val (.int v14), .val (.ref b110), .val (.ref b124), .val (.long v20), .second, .val (.long v21), .second, .val (.int v23), .unset, .unset, .unset, .unset, .unset, .unset] [(.int (lcmpW ((((v21.toUInt64 >>> (v14 &&& 0x3f).toInt64.toUInt64).toInt64).toUInt64 >>> (v1 &&& 0x3f).toInt64.toUInt64).toInt64) (0 : Int64)))])) t := by
          intro t kt
          show Steps p.tables e below (T151.setTop (mkF m 203 #[.val (.int p0), .val (.int p1), .val (.int p2), .val (.int p3), .val (.long q4), .second, .val (.long q5), .second, .val (.int v1), .val (.long v8), .second, .val (.int v9), .val (.int v10), .val (.int v11), .val (.int v12), .val (.int v13), .val (.int v14), .val (.ref b110), .val (.ref b124), .val (.long v20), .second, .val (.long v21), .second, .val (.int v23), .unset, .unset, .unset, .unset, .unset, .unset] [(.int (lcmpW ((((v21.toUInt64 >>> (v14 &&& 0x3f).toInt64.toUInt64).toInt64).toUInt64 >>> (v1 &&& 0x3f).toInt64.toUInt64).toInt64) (0 : Int64)))])) _
          refine XS.ifNo X151.here hx rfl (hb hby at_203) rfl ((if0 _ _).trans (teq (own_lc_eq hc203_24)).2) ?_
          show Steps p.tables e below (T151.setTop (mkF m 206 #[.val (.int p0), .val (.int p1), .val (.int p2), .val (.int p3), .val (.long q4), .second, .val (.long q5), .second, .val (.int v1), .val (.long v8), .second, .val (.int v9), .val (.int v10), .val (.int v11), .val (.int v12), .val (.int v13), .val (.int v14), .val (.ref b110), .val (.ref b124), .val (.long v20), .second, .val (.long v21), .second, .val (.int v23), .unset, .unset, .unset, .unset, .unset, .unset] [])) _
          refine XS.iconst X151.here hx rfl (hb hby at_206) ?_
          show Steps p.tables e below (T151.setTop (mkF m 207 #[.val (.int p0), .val (.int p1), .val (.int p2), .val (.int p3), .val (.long q4), .second, .val (.long q5), .second, .val (.int v1), .val (.long v8), .second, .val (.int v9), .val (.int v10), .val (.int v11), .val (.int v12), .val (.int v13), .val (.int v14), .val (.ref b110), .val (.ref b124), .val (.long v20), .second, .val (.long v21), .second, .val (.int v23), .unset, .unset, .unset, .unset, .unset, .unset] [(.int (1 : Int32))])) _
          refine XS.goto X151.here hx rfl (pc0 := 207) (pc' := 211) rfl (hb hby at_207) (by decide) (by decide) ?_
          exact kt
        refine own_arm hgo152 ?_
        exact own_armEnd X151 N151 e151 (by rw [hv25.trans (if_pos hc203_24)])
      · have hgo153 : ∀ t, Steps p.tables e below (T151.setTop (mkF m 211 #[.val (.int p0), .val (.int p1), .val (.int p2), .val (.int p3), .val (.long q4), .second, .val (.long q5), .second, .val (.int v1), .val (.long v8), .second, .val (.int v9), .val (.int v10), .val (.int v11), .val (.int v12), .val (.int v13), .val (.int v14), .val (.ref b110), .val (.ref b124), .val (.long v20), .second, .val (.long v21), .second, .val (.int v23), .unset, .unset, .unset, .unset, .unset, .unset] [(.int (0 : Int32))])) t → Steps p.tables e below (T151.setTop (mkF m 203 #[.val (.int p0), .val (.int p1), .val (.int p2), .val (.int p3), .val (.long q4), .second, .val (.long q5), .second, .val (.int v1), .val (.long v8), .second, .val (.int v9), .val (.int v10), .val (.int v11), .val (.int v12), .val (.int v13), .val (.int v14), .val (.ref b110), .val (.ref b124), .val (.long v20), .second, .val (.long v21), .second, .val (.int v23), .unset, .unset, .unset, .unset, .unset, .unset] [(.int (lcmpW ((((v21.toUInt64 >>> (v14 &&& 0x3f).toInt64.toUInt64).toInt64).toUInt64 >>> (v1 &&& 0x3f).toInt64.toUInt64).toInt64) (0 : Int64)))])) t := by
          intro t kt
          show Steps p.tables e below (T151.setTop (mkF m 203 #[.val (.int p0), .val (.int p1), .val (.int p2), .val (.int p3), .val (.long q4), .second, .val (.long q5), .second, .val (.int v1), .val (.long v8), .second, .val (.int v9), .val (.int v10), .val (.int v11), .val (.int v12), .val (.int v13), .val (.int v14), .val (.ref b110), .val (.ref b124), .val (.long v20), .second, .val (.long v21), .second, .val (.int v23), .unset, .unset, .unset, .unset, .unset, .unset] [(.int (lcmpW ((((v21.toUInt64 >>> (v14 &&& 0x3f).toInt64.toUInt64).toInt64).toUInt64 >>> (v1 &&& 0x3f).toInt64.toUInt64).toInt64) (0 : Int64)))])) _
          refine XS.ifYes X151.here hx rfl (pc0 := 203) (pc' := 210) rfl (hb hby at_203) rfl ((if0 _ _).trans (feq (own_lc_neq hc203_24)).2) (by decide) (by decide) ?_
          show Steps p.tables e below (T151.setTop (mkF m 210 #[.val (.int p0), .val (.int p1), .val (.int p2), .val (.int p3), .val (.long q4), .second, .val (.long q5), .second, .val (.int v1), .val (.long v8), .second, .val (.int v9), .val (.int v10), .val (.int v11), .val (.int v12), .val (.int v13), .val (.int v14), .val (.ref b110), .val (.ref b124), .val (.long v20), .second, .val (.long v21), .second, .val (.int v23), .unset, .unset, .unset, .unset, .unset, .unset] [])) _
          refine XS.iconst X151.here hx rfl (hb hby at_210) ?_
          exact kt
        refine own_arm hgo153 ?_
        exact own_armEnd X151 N151 e151 (by rw [hv25.trans (if_neg hc203_24)]))
    have hin217_155 : ¬ v13 < 0 ∧ v13.toNatClampNeg < 64 := by obtain ⟨n, h, h1⟩ := own_g1 hv1; have g := (own_g6 (own_g5 hv11) (own_f5 h1 hv10).2.1 hv13); exact own_ix g.1 (by omega)
    obtain ⟨v27, hv27⟩ : ∃ z : Int32, z = (if ((((v19 v13.toNatClampNeg).toUInt64 >>> (v14 &&& 0x3f).toInt64.toUInt64).toInt64) &&& v20) = ((v12 - (1 : Int32)).toInt64) then (1 : Int32) else (0 : Int32)) := ⟨_, rfl⟩
    obtain ⟨T158, lc158, X158, N158, e158, st158⟩ := own_mrg (n0 := n0) (h := T141.heap) (g := (mkF m 230 #[.val (.int p0), .val (.int p1), .val (.int p2), .val (.int p3), .val (.long q4), .second, .val (.long q5), .second, .val (.int v1), .val (.long v8), .second, .val (.int v9), .val (.int v10), .val (.int v11), .val (.int v12), .val (.int v13), .val (.int v14), .val (.ref b110), .val (.ref b124), .val (.long v20), .second, .val (.long v21), .second, .val (.int v23), .val (.int v25), .unset, .unset, .unset, .unset, .unset] [(.int (lcmpW ((((v19 v13.toNatClampNeg).toUInt64 >>> (v14 &&& 0x3f).toInt64.toUInt64).toInt64) &&& v20) ((v12 - (1 : Int32)).toInt64)))])) (g' := (mkF m 238 #[.val (.int p0), .val (.int p1), .val (.int p2), .val (.int p3), .val (.long q4), .second, .val (.long q5), .second, .val (.int v1), .val (.long v8), .second, .val (.int v9), .val (.int v10), .val (.int v11), .val (.int v12), .val (.int v13), .val (.int v14), .val (.ref b110), .val (.ref b124), .val (.long v20), .second, .val (.long v21), .second, .val (.int v23), .val (.int v25), .unset, .unset, .unset, .unset, .unset] [(.int v27)])) X154 (by
      by_cases hc230_26 : ((((v19 v13.toNatClampNeg).toUInt64 >>> (v14 &&& 0x3f).toInt64.toUInt64).toInt64) &&& v20) = ((v12 - (1 : Int32)).toInt64)
      · have hgo156 : ∀ t, Steps p.tables e below (T154.setTop (mkF m 238 #[.val (.int p0), .val (.int p1), .val (.int p2), .val (.int p3), .val (.long q4), .second, .val (.long q5), .second, .val (.int v1), .val (.long v8), .second, .val (.int v9), .val (.int v10), .val (.int v11), .val (.int v12), .val (.int v13), .val (.int v14), .val (.ref b110), .val (.ref b124), .val (.long v20), .second, .val (.long v21), .second, .val (.int v23), .val (.int v25), .unset, .unset, .unset, .unset, .unset] [(.int (1 : Int32))])) t → Steps p.tables e below (T154.setTop (mkF m 230 #[.val (.int p0), .val (.int p1), .val (.int p2), .val (.int p3), .val (.long q4), .second, .val (.long q5), .second, .val (.int v1), .val (.long v8), .second, .val (.int v9), .val (.int v10), .val (.int v11), .val (.int v12), .val (.int v13), .val (.int v14), .val (.ref b110), .val (.ref b124), .val (.long v20), .second, .val (.long v21), .second, .val (.int v23), .val (.int v25), .unset, .unset, .unset, .unset, .unset] [(.int (lcmpW ((((v19 v13.toNatClampNeg).toUInt64 >>> (v14 &&& 0x3f).toInt64.toUInt64).toInt64) &&& v20) ((v12 - (1 : Int32)).toInt64)))])) t := by
          intro t kt
          show Steps p.tables e below (T154.setTop (mkF m 230 #[.val (.int p0), .val (.int p1), .val (.int p2), .val (.int p3), .val (.long q4), .second, .val (.long q5), .second, .val (.int v1), .val (.long v8), .second, .val (.int v9), .val (.int v10), .val (.int v11), .val (.int v12), .val (.int v13), .val (.int v14), .val (.ref b110), .val (.ref b124), .val (.long v20), .second, .val (.long v21), .second, .val (.int v23), .val (.int v25), .unset, .unset, .unset, .unset, .unset] [(.int (lcmpW ((((v19 v13.toNatClampNeg).toUInt64 >>> (v14 &&& 0x3f).toInt64.toUInt64).toInt64) &&& v20) ((v12 - (1 : Int32)).toInt64)))])) _
          refine XS.ifNo X154.here hx rfl (hb hby at_230) rfl ((if0 _ _).trans (teq (own_lc_eq hc230_26)).2) ?_
          show Steps p.tables e below (T154.setTop (mkF m 233 #[.val (.int p0), .val (.int p1), .val (.int p2), .val (.int p3), .val (.long q4), .second, .val (.long q5), .second, .val (.int v1), .val (.long v8), .second, .val (.int v9), .val (.int v10), .val (.int v11), .val (.int v12), .val (.int v13), .val (.int v14), .val (.ref b110), .val (.ref b124), .val (.long v20), .second, .val (.long v21), .second, .val (.int v23), .val (.int v25), .unset, .unset, .unset, .unset, .unset] [])) _
          refine XS.iconst X154.here hx rfl (hb hby at_233) ?_
          show Steps p.tables e below (T154.setTop (mkF m 234 #[.val (.int p0), .val (.int p1), .val (.int p2), .val (.int p3), .val (.long q4), .second, .val (.long q5), .second, .val (.int v1), .val (.long v8), .second, .val (.int v9), .val (.int v10), .val (.int v11), .val (.int v12), .val (.int v13), .val (.int v14), .val (.ref b110), .val (.ref b124), .val (.long v20), .second, .val (.long v21), .second, .val (.int v23), .val (.int v25), .unset, .unset, .unset, .unset, .unset] [(.int (1 : Int32))])) _
          refine XS.goto X154.here hx rfl (pc0 := 234) (pc' := 238) rfl (hb hby at_234) (by decide) (by decide) ?_
          exact kt
        refine own_arm hgo156 ?_
        exact own_armEnd X154 N154 e154 (by rw [hv27.trans (if_pos hc230_26)])
      · have hgo157 : ∀ t, Steps p.tables e below (T154.setTop (mkF m 238 #[.val (.int p0), .val (.int p1), .val (.int p2), .val (.int p3), .val (.long q4), .second, .val (.long q5), .second, .val (.int v1), .val (.long v8), .second, .val (.int v9), .val (.int v10), .val (.int v11), .val (.int v12), .val (.int v13), .val (.int v14), .val (.ref b110), .val (.ref b124), .val (.long v20), .second, .val (.long v21), .second, .val (.int v23), .val (.int v25), .unset, .unset, .unset, .unset, .unset] [(.int (0 : Int32))])) t → Steps p.tables e below (T154.setTop (mkF m 230 #[.val (.int p0), .val (.int p1), .val (.int p2), .val (.int p3), .val (.long q4), .second, .val (.long q5), .second, .val (.int v1), .val (.long v8), .second, .val (.int v9), .val (.int v10), .val (.int v11), .val (.int v12), .val (.int v13), .val (.int v14), .val (.ref b110), .val (.ref b124), .val (.long v20), .second, .val (.long v21), .second, .val (.int v23), .val (.int v25), .unset, .unset, .unset, .unset, .unset] [(.int (lcmpW ((((v19 v13.toNatClampNeg).toUInt64 >>> (v14 &&& 0x3f).toInt64.toUInt64).toInt64) &&& v20) ((v12 - (1 : Int32)).toInt64)))])) t := by
          intro t kt
          show Steps p.tables e below (T154.setTop (mkF m 230 #[.val (.int p0), .val (.int p1), .val (.int p2), .val (.int p3), .val (.long q4), .second, .val (.long q5), .second, .val (.int v1), .val (.long v8), .second, .val (.int v9), .val (.int v10), .val (.int v11), .val (.int v12), .val (.int v13), .val (.int v14), .val (.ref b110), .val (.ref b124), .val (.long v20), .second, .val (.long v21), .second, .val (.int v23), .val (.int v25), .unset, .unset, .unset, .unset, .unset] [(.int (lcmpW ((((v19 v13.toNatClampNeg).toUInt64 >>> (v14 &&& 0x3f).toInt64.toUInt64).toInt64) &&& v20) ((v12 - (1 : Int32)).toInt64)))])) _
          refine XS.ifYes X154.here hx rfl (pc0 := 230) (pc' := 237) rfl (hb hby at_230) rfl ((if0 _ _).trans (feq (own_lc_neq hc230_26)).2) (by decide) (by decide) ?_
          show Steps p.tables e below (T154.setTop (mkF m 237 #[.val (.int p0), .val (.int p1), .val (.int p2), .val (.int p3), .val (.long q4), .second, .val (.long q5), .second, .val (.int v1), .val (.long v8), .second, .val (.int v9), .val (.int v10), .val (.int v11), .val (.int v12), .val (.int v13), .val (.int v14), .val (.ref b110), .val (.ref b124), .val (.long v20), .second, .val (.long v21), .second, .val (.int v23), .val (.int v25), .unset, .unset, .unset, .unset, .unset] [])) _
          refine XS.iconst X154.here hx rfl (hb hby at_237) ?_
          exact kt
        refine own_arm hgo157 ?_
        exact own_armEnd X154 N154 e154 (by rw [hv27.trans (if_neg hc230_26)]))
    obtain ⟨cq159, kq159, q159a, q159b, q159c⟩ := isOf hZ e158 F142
    obtain ⟨_, _, ⟨T159, L159, k159, n159⟩, -, X159, ⟨Lc159, hQ159, l159, y159, z159⟩, st159⟩ := X158.virtualBack hx (y := (⟨"com/example/swapgraph/swapgraph/AllocationTable", "objectOf", "([JI)I"⟩ : MethodName)) (z := (⟨"com/example/swapgraph/swapgraph/AllocationTable", "objectOf", "([JI)I"⟩ : MethodName)) hown (mvT hZ (hw _ (List.mem_of_getElem? (i := 48) rfl))) (mvT hZ (hw _ (List.mem_of_getElem? (i := 49) rfl))) (notFace_of_selects (args := #[]) (mvT hZ (hw _ (List.mem_of_getElem? (i := 51) rfl)))) (mvT hZ (hw _ (List.mem_of_getElem? (i := 51) rfl))) (mvT hZ (hw _ (List.mem_of_getElem? (i := 50) rfl))) (by decide) (backOf (W := 0) (rm7 l Z a0 hw [] b124 b110 v11 v19 v10 v1 (((1 : Int64) <<< (v1 &&& 0x3f).toInt64) - (1 : Int64)) (T141.heap) n0 Z146 F141_0n F144 (by obtain ⟨n, h, h1⟩ := own_g1 hv1; exact own_nzI (by have q := (own_f5 h1 hv10); omega) : ¬ (v10 = (0 : Int32))) (by obtain ⟨n, h, h1⟩ := own_g1 hv1; have g := (own_g6 (own_g5 hv11) (own_f5 h1 hv10).2.1 rfl); exact own_ix g.1 (by omega) : ¬ ((v11 - (1 : Int32)) / v10) < 0 ∧ ((v11 - (1 : Int32)) / v10).toNatClampNeg < 64) F143 F145) hZ (hw _ (List.mem_of_getElem? (i := 52) rfl)) (hw _ (List.mem_of_getElem? (i := 4) rfl)) (by decide) (by decide)) q159a q159c (g := (mkF m 246 #[.val (.int p0), .val (.int p1), .val (.int p2), .val (.int p3), .val (.long q4), .second, .val (.long q5), .second, .val (.int v1), .val (.long v8), .second, .val (.int v9), .val (.int v10), .val (.int v11), .val (.int v12), .val (.int v13), .val (.int v14), .val (.ref b110), .val (.ref b124), .val (.long v20), .second, .val (.long v21), .second, .val (.int v23), .val (.int v25), .val (.int v27), .unset, .unset, .unset, .unset] [(.int v11), (.ref b110), (.ref b124)])) rfl (by rw [hml]; rfl) (Steps.refl _) (argsL := [(.ref b110), (.int v11)]) (rest := []) (lenOf pd7 rfl) rfl (by show 2 * 0 + _ ≤ _; exact Nat.le_of_eq rfl) (hb hby at_246) (fun _ _ => ⟨rfl, e158, (by decide : 4 + 0 ≤ _), (by decide : 617 + 0 ≤ _)⟩)
    dsimp only [Pt.U, Pt.locs, Pt.cells, Pt.slots] at X159 l159 y159 z159 st159 hQ159
    subst l159 y159 z159
    obtain ⟨rfl, N159q, e159⟩ := hQ159
    have N159 := Fr.app N158 N159q
    obtain ⟨v29, hv29⟩ : ∃ z : Int32, z = (if (own_r7 v11 v19 v10 v1 (((1 : Int64) <<< (v1 &&& 0x3f).toInt64) - (1 : Int64))) = v12 then (1 : Int32) else (0 : Int32)) := ⟨_, rfl⟩
    obtain ⟨T162, lc162, X162, N162, e162, st162⟩ := own_mrg (n0 := n0) (h := T141.heap) (g := (mkF m 251 #[.val (.int p0), .val (.int p1), .val (.int p2), .val (.int p3), .val (.long q4), .second, .val (.long q5), .second, .val (.int v1), .val (.long v8), .second, .val (.int v9), .val (.int v10), .val (.int v11), .val (.int v12), .val (.int v13), .val (.int v14), .val (.ref b110), .val (.ref b124), .val (.long v20), .second, .val (.long v21), .second, .val (.int v23), .val (.int v25), .val (.int v27), .unset, .unset, .unset, .unset] [(.int v12), (.int (own_r7 v11 v19 v10 v1 (((1 : Int64) <<< (v1 &&& 0x3f).toInt64) - (1 : Int64))))])) (g' := (mkF m 259 #[.val (.int p0), .val (.int p1), .val (.int p2), .val (.int p3), .val (.long q4), .second, .val (.long q5), .second, .val (.int v1), .val (.long v8), .second, .val (.int v9), .val (.int v10), .val (.int v11), .val (.int v12), .val (.int v13), .val (.int v14), .val (.ref b110), .val (.ref b124), .val (.long v20), .second, .val (.long v21), .second, .val (.int v23), .val (.int v25), .val (.int v27), .unset, .unset, .unset, .unset] [(.int v29)])) X159 (by
      by_cases hc251_28 : (own_r7 v11 v19 v10 v1 (((1 : Int64) <<< (v1 &&& 0x3f).toInt64) - (1 : Int64))) = v12
      · have hgo160 : ∀ t, Steps p.tables e below (T159.setTop (mkF m 259 #[.val (.int p0), .val (.int p1), .val (.int p2), .val (.int p3), .val (.long q4), .second, .val (.long q5), .second, .val (.int v1), .val (.long v8), .second, .val (.int v9), .val (.int v10), .val (.int v11), .val (.int v12), .val (.int v13), .val (.int v14), .val (.ref b110), .val (.ref b124), .val (.long v20), .second, .val (.long v21), .second, .val (.int v23), .val (.int v25), .val (.int v27), .unset, .unset, .unset, .unset] [(.int (1 : Int32))])) t → Steps p.tables e below (T159.setTop (mkF m 251 #[.val (.int p0), .val (.int p1), .val (.int p2), .val (.int p3), .val (.long q4), .second, .val (.long q5), .second, .val (.int v1), .val (.long v8), .second, .val (.int v9), .val (.int v10), .val (.int v11), .val (.int v12), .val (.int v13), .val (.int v14), .val (.ref b110), .val (.ref b124), .val (.long v20), .second, .val (.long v21), .second, .val (.int v23), .val (.int v25), .val (.int v27), .unset, .unset, .unset, .unset] [(.int v12), (.int (own_r7 v11 v19 v10 v1 (((1 : Int64) <<< (v1 &&& 0x3f).toInt64) - (1 : Int64))))])) t := by
          intro t kt
          show Steps p.tables e below (T159.setTop (mkF m 251 #[.val (.int p0), .val (.int p1), .val (.int p2), .val (.int p3), .val (.long q4), .second, .val (.long q5), .second, .val (.int v1), .val (.long v8), .second, .val (.int v9), .val (.int v10), .val (.int v11), .val (.int v12), .val (.int v13), .val (.int v14), .val (.ref b110), .val (.ref b124), .val (.long v20), .second, .val (.long v21), .second, .val (.int v23), .val (.int v25), .val (.int v27), .unset, .unset, .unset, .unset] [(.int v12), (.int (own_r7 v11 v19 v10 v1 (((1 : Int64) <<< (v1 &&& 0x3f).toInt64) - (1 : Int64))))])) _
          refine XS.icmpNo X159.here hx rfl (hb hby at_251) rfl (teq hc251_28).2 ?_
          show Steps p.tables e below (T159.setTop (mkF m 254 #[.val (.int p0), .val (.int p1), .val (.int p2), .val (.int p3), .val (.long q4), .second, .val (.long q5), .second, .val (.int v1), .val (.long v8), .second, .val (.int v9), .val (.int v10), .val (.int v11), .val (.int v12), .val (.int v13), .val (.int v14), .val (.ref b110), .val (.ref b124), .val (.long v20), .second, .val (.long v21), .second, .val (.int v23), .val (.int v25), .val (.int v27), .unset, .unset, .unset, .unset] [])) _
          refine XS.iconst X159.here hx rfl (hb hby at_254) ?_
          show Steps p.tables e below (T159.setTop (mkF m 255 #[.val (.int p0), .val (.int p1), .val (.int p2), .val (.int p3), .val (.long q4), .second, .val (.long q5), .second, .val (.int v1), .val (.long v8), .second, .val (.int v9), .val (.int v10), .val (.int v11), .val (.int v12), .val (.int v13), .val (.int v14), .val (.ref b110), .val (.ref b124), .val (.long v20), .second, .val (.long v21), .second, .val (.int v23), .val (.int v25), .val (.int v27), .unset, .unset, .unset, .unset] [(.int (1 : Int32))])) _
          refine XS.goto X159.here hx rfl (pc0 := 255) (pc' := 259) rfl (hb hby at_255) (by decide) (by decide) ?_
          exact kt
        refine own_arm hgo160 ?_
        exact own_armEnd X159 N159 e159 (by rw [hv29.trans (if_pos hc251_28)])
      · have hgo161 : ∀ t, Steps p.tables e below (T159.setTop (mkF m 259 #[.val (.int p0), .val (.int p1), .val (.int p2), .val (.int p3), .val (.long q4), .second, .val (.long q5), .second, .val (.int v1), .val (.long v8), .second, .val (.int v9), .val (.int v10), .val (.int v11), .val (.int v12), .val (.int v13), .val (.int v14), .val (.ref b110), .val (.ref b124), .val (.long v20), .second, .val (.long v21), .second, .val (.int v23), .val (.int v25), .val (.int v27), .unset, .unset, .unset, .unset] [(.int (0 : Int32))])) t → Steps p.tables e below (T159.setTop (mkF m 251 #[.val (.int p0), .val (.int p1), .val (.int p2), .val (.int p3), .val (.long q4), .second, .val (.long q5), .second, .val (.int v1), .val (.long v8), .second, .val (.int v9), .val (.int v10), .val (.int v11), .val (.int v12), .val (.int v13), .val (.int v14), .val (.ref b110), .val (.ref b124), .val (.long v20), .second, .val (.long v21), .second, .val (.int v23), .val (.int v25), .val (.int v27), .unset, .unset, .unset, .unset] [(.int v12), (.int (own_r7 v11 v19 v10 v1 (((1 : Int64) <<< (v1 &&& 0x3f).toInt64) - (1 : Int64))))])) t := by
          intro t kt
          show Steps p.tables e below (T159.setTop (mkF m 251 #[.val (.int p0), .val (.int p1), .val (.int p2), .val (.int p3), .val (.long q4), .second, .val (.long q5), .second, .val (.int v1), .val (.long v8), .second, .val (.int v9), .val (.int v10), .val (.int v11), .val (.int v12), .val (.int v13), .val (.int v14), .val (.ref b110), .val (.ref b124), .val (.long v20), .second, .val (.long v21), .second, .val (.int v23), .val (.int v25), .val (.int v27), .unset, .unset, .unset, .unset] [(.int v12), (.int (own_r7 v11 v19 v10 v1 (((1 : Int64) <<< (v1 &&& 0x3f).toInt64) - (1 : Int64))))])) _
          refine XS.icmpYes X159.here hx rfl (pc0 := 251) (pc' := 258) rfl (hb hby at_251) rfl (feq hc251_28).2 (by decide) (by decide) ?_
          show Steps p.tables e below (T159.setTop (mkF m 258 #[.val (.int p0), .val (.int p1), .val (.int p2), .val (.int p3), .val (.long q4), .second, .val (.long q5), .second, .val (.int v1), .val (.long v8), .second, .val (.int v9), .val (.int v10), .val (.int v11), .val (.int v12), .val (.int v13), .val (.int v14), .val (.ref b110), .val (.ref b124), .val (.long v20), .second, .val (.long v21), .second, .val (.int v23), .val (.int v25), .val (.int v27), .unset, .unset, .unset, .unset] [])) _
          refine XS.iconst X159.here hx rfl (hb hby at_258) ?_
          exact kt
        refine own_arm hgo161 ?_
        exact own_armEnd X159 N159 e159 (by rw [hv29.trans (if_neg hc251_28)]))
    have hin267_163 : ¬ v17 < 0 ∧ v17.toNatClampNeg < 64 := by obtain ⟨n, h, h1⟩ := own_g1 hv1; have g := (own_g6 (own_g5 hv11) (own_f5 h1 hv10).2.1 hv13); have e := own_g8 g hv17; exact own_ix (by omega) (by omega)
    obtain ⟨v31, hv31⟩ : ∃ z : Int32, z = (if (v19 v17.toNatClampNeg) = q5 then (1 : Int32) else (0 : Int32)) := ⟨_, rfl⟩
    obtain ⟨T166, lc166, X166, N166, e166, st166⟩ := own_mrg (n0 := n0) (h := T141.heap) (g := (mkF m 271 #[.val (.int p0), .val (.int p1), .val (.int p2), .val (.int p3), .val (.long q4), .second, .val (.long q5), .second, .val (.int v1), .val (.long v8), .second, .val (.int v9), .val (.int v10), .val (.int v11), .val (.int v12), .val (.int v13), .val (.int v14), .val (.ref b110), .val (.ref b124), .val (.long v20), .second, .val (.long v21), .second, .val (.int v23), .val (.int v25), .val (.int v27), .val (.int v29), .unset, .unset, .unset] [(.int (lcmpW (v19 v17.toNatClampNeg) q5))])) (g' := (mkF m 279 #[.val (.int p0), .val (.int p1), .val (.int p2), .val (.int p3), .val (.long q4), .second, .val (.long q5), .second, .val (.int v1), .val (.long v8), .second, .val (.int v9), .val (.int v10), .val (.int v11), .val (.int v12), .val (.int v13), .val (.int v14), .val (.ref b110), .val (.ref b124), .val (.long v20), .second, .val (.long v21), .second, .val (.int v23), .val (.int v25), .val (.int v27), .val (.int v29), .unset, .unset, .unset] [(.int v31)])) X162 (by
      by_cases hc271_30 : (v19 v17.toNatClampNeg) = q5
      · have hgo164 : ∀ t, Steps p.tables e below (T162.setTop (mkF m 279 #[.val (.int p0), .val (.int p1), .val (.int p2), .val (.int p3), .val (.long q4), .second, .val (.long q5), .second, .val (.int v1), .val (.long v8), .second, .val (.int v9), .val (.int v10), .val (.int v11), .val (.int v12), .val (.int v13), .val (.int v14), .val (.ref b110), .val (.ref b124), .val (.long v20), .second, .val (.long v21), .second, .val (.int v23), .val (.int v25), .val (.int v27), .val (.int v29), .unset, .unset, .unset] [(.int (1 : Int32))])) t → Steps p.tables e below (T162.setTop (mkF m 271 #[.val (.int p0), .val (.int p1), .val (.int p2), .val (.int p3), .val (.long q4), .second, .val (.long q5), .second, .val (.int v1), .val (.long v8), .second, .val (.int v9), .val (.int v10), .val (.int v11), .val (.int v12), .val (.int v13), .val (.int v14), .val (.ref b110), .val (.ref b124), .val (.long v20), .second, .val (.long v21), .second, .val (.int v23), .val (.int v25), .val (.int v27), .val (.int v29), .unset, .unset, .unset] [(.int (lcmpW (v19 v17.toNatClampNeg) q5))])) t := by
          intro t kt
          show Steps p.tables e below (T162.setTop (mkF m 271 #[.val (.int p0), .val (.int p1), .val (.int p2), .val (.int p3), .val (.long q4), .second, .val (.long q5), .second, .val (.int v1), .val (.long v8), .second, .val (.int v9), .val (.int v10), .val (.int v11), .val (.int v12), .val (.int v13), .val (.int v14), .val (.ref b110), .val (.ref b124), .val (.long v20), .second, .val (.long v21), .second, .val (.int v23), .val (.int v25), .val (.int v27), .val (.int v29), .unset, .unset, .unset] [(.int (lcmpW (v19 v17.toNatClampNeg) q5))])) _
          refine XS.ifNo X162.here hx rfl (hb hby at_271) rfl ((if0 _ _).trans (teq (own_lc_eq hc271_30)).2) ?_
          show Steps p.tables e below (T162.setTop (mkF m 274 #[.val (.int p0), .val (.int p1), .val (.int p2), .val (.int p3), .val (.long q4), .second, .val (.long q5), .second, .val (.int v1), .val (.long v8), .second, .val (.int v9), .val (.int v10), .val (.int v11), .val (.int v12), .val (.int v13), .val (.int v14), .val (.ref b110), .val (.ref b124), .val (.long v20), .second, .val (.long v21), .second, .val (.int v23), .val (.int v25), .val (.int v27), .val (.int v29), .unset, .unset, .unset] [])) _
          refine XS.iconst X162.here hx rfl (hb hby at_274) ?_
          show Steps p.tables e below (T162.setTop (mkF m 275 #[.val (.int p0), .val (.int p1), .val (.int p2), .val (.int p3), .val (.long q4), .second, .val (.long q5), .second, .val (.int v1), .val (.long v8), .second, .val (.int v9), .val (.int v10), .val (.int v11), .val (.int v12), .val (.int v13), .val (.int v14), .val (.ref b110), .val (.ref b124), .val (.long v20), .second, .val (.long v21), .second, .val (.int v23), .val (.int v25), .val (.int v27), .val (.int v29), .unset, .unset, .unset] [(.int (1 : Int32))])) _
          refine XS.goto X162.here hx rfl (pc0 := 275) (pc' := 279) rfl (hb hby at_275) (by decide) (by decide) ?_
          exact kt
        refine own_arm hgo164 ?_
        exact own_armEnd X162 N162 e162 (by rw [hv31.trans (if_pos hc271_30)])
      · have hgo165 : ∀ t, Steps p.tables e below (T162.setTop (mkF m 279 #[.val (.int p0), .val (.int p1), .val (.int p2), .val (.int p3), .val (.long q4), .second, .val (.long q5), .second, .val (.int v1), .val (.long v8), .second, .val (.int v9), .val (.int v10), .val (.int v11), .val (.int v12), .val (.int v13), .val (.int v14), .val (.ref b110), .val (.ref b124), .val (.long v20), .second, .val (.long v21), .second, .val (.int v23), .val (.int v25), .val (.int v27), .val (.int v29), .unset, .unset, .unset] [(.int (0 : Int32))])) t → Steps p.tables e below (T162.setTop (mkF m 271 #[.val (.int p0), .val (.int p1), .val (.int p2), .val (.int p3), .val (.long q4), .second, .val (.long q5), .second, .val (.int v1), .val (.long v8), .second, .val (.int v9), .val (.int v10), .val (.int v11), .val (.int v12), .val (.int v13), .val (.int v14), .val (.ref b110), .val (.ref b124), .val (.long v20), .second, .val (.long v21), .second, .val (.int v23), .val (.int v25), .val (.int v27), .val (.int v29), .unset, .unset, .unset] [(.int (lcmpW (v19 v17.toNatClampNeg) q5))])) t := by
          intro t kt
          show Steps p.tables e below (T162.setTop (mkF m 271 #[.val (.int p0), .val (.int p1), .val (.int p2), .val (.int p3), .val (.long q4), .second, .val (.long q5), .second, .val (.int v1), .val (.long v8), .second, .val (.int v9), .val (.int v10), .val (.int v11), .val (.int v12), .val (.int v13), .val (.int v14), .val (.ref b110), .val (.ref b124), .val (.long v20), .second, .val (.long v21), .second, .val (.int v23), .val (.int v25), .val (.int v27), .val (.int v29), .unset, .unset, .unset] [(.int (lcmpW (v19 v17.toNatClampNeg) q5))])) _
          refine XS.ifYes X162.here hx rfl (pc0 := 271) (pc' := 278) rfl (hb hby at_271) rfl ((if0 _ _).trans (feq (own_lc_neq hc271_30)).2) (by decide) (by decide) ?_
          show Steps p.tables e below (T162.setTop (mkF m 278 #[.val (.int p0), .val (.int p1), .val (.int p2), .val (.int p3), .val (.long q4), .second, .val (.long q5), .second, .val (.int v1), .val (.long v8), .second, .val (.int v9), .val (.int v10), .val (.int v11), .val (.int v12), .val (.int v13), .val (.int v14), .val (.ref b110), .val (.ref b124), .val (.long v20), .second, .val (.long v21), .second, .val (.int v23), .val (.int v25), .val (.int v27), .val (.int v29), .unset, .unset, .unset] [])) _
          refine XS.iconst X162.here hx rfl (hb hby at_278) ?_
          exact kt
        refine own_arm hgo165 ?_
        exact own_armEnd X162 N162 e162 (by rw [hv31.trans (if_neg hc271_30)]))
    obtain ⟨v33, hv33⟩ : ∃ z : Int32, z = (v13 - (1 : Int32)) := ⟨_, rfl⟩
    obtain ⟨v35, hv35⟩ : ∃ z : Int32, z = (if (v19 v33.toNatClampNeg) = (0 : Int64) then (1 : Int32) else (0 : Int32)) := ⟨_, rfl⟩
    obtain ⟨v36, hv36⟩ : ∃ z : Int32, z = (if v13 = (0 : Int32) then (1 : Int32) else v35) := ⟨_, rfl⟩
    obtain ⟨T173, lc173, X173, N173, e173, st173⟩ := own_mrg (n0 := n0) (h := T141.heap) (g := (mkF m 283 #[.val (.int p0), .val (.int p1), .val (.int p2), .val (.int p3), .val (.long q4), .second, .val (.long q5), .second, .val (.int v1), .val (.long v8), .second, .val (.int v9), .val (.int v10), .val (.int v11), .val (.int v12), .val (.int v13), .val (.int v14), .val (.ref b110), .val (.ref b124), .val (.long v20), .second, .val (.long v21), .second, .val (.int v23), .val (.int v25), .val (.int v27), .val (.int v29), .val (.int v31), .unset, .unset] [(.int v13)])) (g' := (mkF m 303 #[.val (.int p0), .val (.int p1), .val (.int p2), .val (.int p3), .val (.long q4), .second, .val (.long q5), .second, .val (.int v1), .val (.long v8), .second, .val (.int v9), .val (.int v10), .val (.int v11), .val (.int v12), .val (.int v13), .val (.int v14), .val (.ref b110), .val (.ref b124), .val (.long v20), .second, .val (.long v21), .second, .val (.int v23), .val (.int v25), .val (.int v27), .val (.int v29), .val (.int v31), .unset, .unset] [(.int v36)])) X166 (by
      by_cases hc283_32 : v13 = (0 : Int32)
      · have hgo167 : ∀ t, Steps p.tables e below (T166.setTop (mkF m 303 #[.val (.int p0), .val (.int p1), .val (.int p2), .val (.int p3), .val (.long q4), .second, .val (.long q5), .second, .val (.int v1), .val (.long v8), .second, .val (.int v9), .val (.int v10), .val (.int v11), .val (.int v12), .val (.int v13), .val (.int v14), .val (.ref b110), .val (.ref b124), .val (.long v20), .second, .val (.long v21), .second, .val (.int v23), .val (.int v25), .val (.int v27), .val (.int v29), .val (.int v31), .unset, .unset] [(.int (1 : Int32))])) t → Steps p.tables e below (T166.setTop (mkF m 283 #[.val (.int p0), .val (.int p1), .val (.int p2), .val (.int p3), .val (.long q4), .second, .val (.long q5), .second, .val (.int v1), .val (.long v8), .second, .val (.int v9), .val (.int v10), .val (.int v11), .val (.int v12), .val (.int v13), .val (.int v14), .val (.ref b110), .val (.ref b124), .val (.long v20), .second, .val (.long v21), .second, .val (.int v23), .val (.int v25), .val (.int v27), .val (.int v29), .val (.int v31), .unset, .unset] [(.int v13)])) t := by
          intro t kt
          show Steps p.tables e below (T166.setTop (mkF m 283 #[.val (.int p0), .val (.int p1), .val (.int p2), .val (.int p3), .val (.long q4), .second, .val (.long q5), .second, .val (.int v1), .val (.long v8), .second, .val (.int v9), .val (.int v10), .val (.int v11), .val (.int v12), .val (.int v13), .val (.int v14), .val (.ref b110), .val (.ref b124), .val (.long v20), .second, .val (.long v21), .second, .val (.int v23), .val (.int v25), .val (.int v27), .val (.int v29), .val (.int v31), .unset, .unset] [(.int v13)])) _
          refine XS.ifYes X166.here hx rfl (pc0 := 283) (pc' := 298) rfl (hb hby at_283) rfl ((if0 _ _).trans (teq hc283_32).1) (by decide) (by decide) ?_
          show Steps p.tables e below (T166.setTop (mkF m 298 #[.val (.int p0), .val (.int p1), .val (.int p2), .val (.int p3), .val (.long q4), .second, .val (.long q5), .second, .val (.int v1), .val (.long v8), .second, .val (.int v9), .val (.int v10), .val (.int v11), .val (.int v12), .val (.int v13), .val (.int v14), .val (.ref b110), .val (.ref b124), .val (.long v20), .second, .val (.long v21), .second, .val (.int v23), .val (.int v25), .val (.int v27), .val (.int v29), .val (.int v31), .unset, .unset] [])) _
          refine XS.iconst X166.here hx rfl (hb hby at_298) ?_
          show Steps p.tables e below (T166.setTop (mkF m 299 #[.val (.int p0), .val (.int p1), .val (.int p2), .val (.int p3), .val (.long q4), .second, .val (.long q5), .second, .val (.int v1), .val (.long v8), .second, .val (.int v9), .val (.int v10), .val (.int v11), .val (.int v12), .val (.int v13), .val (.int v14), .val (.ref b110), .val (.ref b124), .val (.long v20), .second, .val (.long v21), .second, .val (.int v23), .val (.int v25), .val (.int v27), .val (.int v29), .val (.int v31), .unset, .unset] [(.int (1 : Int32))])) _
          refine XS.goto X166.here hx rfl (pc0 := 299) (pc' := 303) rfl (hb hby at_299) (by decide) (by decide) ?_
          exact kt
        refine own_arm hgo167 ?_
        exact own_armEnd X166 N166 e166 (by rw [hv36.trans (if_pos hc283_32)])
      · have hin292_168 : ¬ v33 < 0 ∧ v33.toNatClampNeg < 64 := by obtain ⟨n, h, h1⟩ := own_g1 hv1; have g := (own_g6 (own_g5 hv11) (own_f5 h1 hv10).2.1 hv13); have e := own_g9 g hc283_32 hv33; exact own_ix (by omega) (by omega)
        obtain ⟨T171, lc171, X171, N171, e171, st171⟩ := own_mrg (n0 := n0) (h := T141.heap) (g := (mkF m 295 #[.val (.int p0), .val (.int p1), .val (.int p2), .val (.int p3), .val (.long q4), .second, .val (.long q5), .second, .val (.int v1), .val (.long v8), .second, .val (.int v9), .val (.int v10), .val (.int v11), .val (.int v12), .val (.int v13), .val (.int v14), .val (.ref b110), .val (.ref b124), .val (.long v20), .second, .val (.long v21), .second, .val (.int v23), .val (.int v25), .val (.int v27), .val (.int v29), .val (.int v31), .unset, .unset] [(.int (lcmpW (v19 v33.toNatClampNeg) (0 : Int64)))])) (g' := (mkF m 303 #[.val (.int p0), .val (.int p1), .val (.int p2), .val (.int p3), .val (.long q4), .second, .val (.long q5), .second, .val (.int v1), .val (.long v8), .second, .val (.int v9), .val (.int v10), .val (.int v11), .val (.int v12), .val (.int v13), .val (.int v14), .val (.ref b110), .val (.ref b124), .val (.long v20), .second, .val (.long v21), .second, .val (.int v23), .val (.int v25), .val (.int v27), .val (.int v29), .val (.int v31), .unset, .unset] [(.int v35)])) X166 (by
          by_cases hc295_34 : (v19 v33.toNatClampNeg) = (0 : Int64)
          · have hgo169 : ∀ t, Steps p.tables e below (T166.setTop (mkF m 303 #[.val (.int p0), .val (.int p1), .val (.int p2), .val (.int p3), .val (.long q4), .second, .val (.long q5), .second, .val (.int v1), .val (.long v8), .second, .val (.int v9), .val (.int v10), .val (.int v11), .val (.int v12), .val (.int v13), .val (.int v14), .val (.ref b110), .val (.ref b124), .val (.long v20), .second, .val (.long v21), .second, .val (.int v23), .val (.int v25), .val (.int v27), .val (.int v29), .val (.int v31), .unset, .unset] [(.int (1 : Int32))])) t → Steps p.tables e below (T166.setTop (mkF m 295 #[.val (.int p0), .val (.int p1), .val (.int p2), .val (.int p3), .val (.long q4), .second, .val (.long q5), .second, .val (.int v1), .val (.long v8), .second, .val (.int v9), .val (.int v10), .val (.int v11), .val (.int v12), .val (.int v13), .val (.int v14), .val (.ref b110), .val (.ref b124), .val (.long v20), .second, .val (.long v21), .second, .val (.int v23), .val (.int v25), .val (.int v27), .val (.int v29), .val (.int v31), .unset, .unset] [(.int (lcmpW (v19 v33.toNatClampNeg) (0 : Int64)))])) t := by
              intro t kt
              show Steps p.tables e below (T166.setTop (mkF m 295 #[.val (.int p0), .val (.int p1), .val (.int p2), .val (.int p3), .val (.long q4), .second, .val (.long q5), .second, .val (.int v1), .val (.long v8), .second, .val (.int v9), .val (.int v10), .val (.int v11), .val (.int v12), .val (.int v13), .val (.int v14), .val (.ref b110), .val (.ref b124), .val (.long v20), .second, .val (.long v21), .second, .val (.int v23), .val (.int v25), .val (.int v27), .val (.int v29), .val (.int v31), .unset, .unset] [(.int (lcmpW (v19 v33.toNatClampNeg) (0 : Int64)))])) _
              refine XS.ifNo X166.here hx rfl (hb hby at_295) rfl ((if0 _ _).trans (teq (own_lc_eq hc295_34)).2) ?_
              show Steps p.tables e below (T166.setTop (mkF m 298 #[.val (.int p0), .val (.int p1), .val (.int p2), .val (.int p3), .val (.long q4), .second, .val (.long q5), .second, .val (.int v1), .val (.long v8), .second, .val (.int v9), .val (.int v10), .val (.int v11), .val (.int v12), .val (.int v13), .val (.int v14), .val (.ref b110), .val (.ref b124), .val (.long v20), .second, .val (.long v21), .second, .val (.int v23), .val (.int v25), .val (.int v27), .val (.int v29), .val (.int v31), .unset, .unset] [])) _
              refine XS.iconst X166.here hx rfl (hb hby at_298) ?_
              show Steps p.tables e below (T166.setTop (mkF m 299 #[.val (.int p0), .val (.int p1), .val (.int p2), .val (.int p3), .val (.long q4), .second, .val (.long q5), .second, .val (.int v1), .val (.long v8), .second, .val (.int v9), .val (.int v10), .val (.int v11), .val (.int v12), .val (.int v13), .val (.int v14), .val (.ref b110), .val (.ref b124), .val (.long v20), .second, .val (.long v21), .second, .val (.int v23), .val (.int v25), .val (.int v27), .val (.int v29), .val (.int v31), .unset, .unset] [(.int (1 : Int32))])) _
              refine XS.goto X166.here hx rfl (pc0 := 299) (pc' := 303) rfl (hb hby at_299) (by decide) (by decide) ?_
              exact kt
            refine own_arm hgo169 ?_
            exact own_armEnd X166 N166 e166 (by rw [hv35.trans (if_pos hc295_34)])
          · have hgo170 : ∀ t, Steps p.tables e below (T166.setTop (mkF m 303 #[.val (.int p0), .val (.int p1), .val (.int p2), .val (.int p3), .val (.long q4), .second, .val (.long q5), .second, .val (.int v1), .val (.long v8), .second, .val (.int v9), .val (.int v10), .val (.int v11), .val (.int v12), .val (.int v13), .val (.int v14), .val (.ref b110), .val (.ref b124), .val (.long v20), .second, .val (.long v21), .second, .val (.int v23), .val (.int v25), .val (.int v27), .val (.int v29), .val (.int v31), .unset, .unset] [(.int (0 : Int32))])) t → Steps p.tables e below (T166.setTop (mkF m 295 #[.val (.int p0), .val (.int p1), .val (.int p2), .val (.int p3), .val (.long q4), .second, .val (.long q5), .second, .val (.int v1), .val (.long v8), .second, .val (.int v9), .val (.int v10), .val (.int v11), .val (.int v12), .val (.int v13), .val (.int v14), .val (.ref b110), .val (.ref b124), .val (.long v20), .second, .val (.long v21), .second, .val (.int v23), .val (.int v25), .val (.int v27), .val (.int v29), .val (.int v31), .unset, .unset] [(.int (lcmpW (v19 v33.toNatClampNeg) (0 : Int64)))])) t := by
              intro t kt
              show Steps p.tables e below (T166.setTop (mkF m 295 #[.val (.int p0), .val (.int p1), .val (.int p2), .val (.int p3), .val (.long q4), .second, .val (.long q5), .second, .val (.int v1), .val (.long v8), .second, .val (.int v9), .val (.int v10), .val (.int v11), .val (.int v12), .val (.int v13), .val (.int v14), .val (.ref b110), .val (.ref b124), .val (.long v20), .second, .val (.long v21), .second, .val (.int v23), .val (.int v25), .val (.int v27), .val (.int v29), .val (.int v31), .unset, .unset] [(.int (lcmpW (v19 v33.toNatClampNeg) (0 : Int64)))])) _
              refine XS.ifYes X166.here hx rfl (pc0 := 295) (pc' := 302) rfl (hb hby at_295) rfl ((if0 _ _).trans (feq (own_lc_neq hc295_34)).2) (by decide) (by decide) ?_
              show Steps p.tables e below (T166.setTop (mkF m 302 #[.val (.int p0), .val (.int p1), .val (.int p2), .val (.int p3), .val (.long q4), .second, .val (.long q5), .second, .val (.int v1), .val (.long v8), .second, .val (.int v9), .val (.int v10), .val (.int v11), .val (.int v12), .val (.int v13), .val (.int v14), .val (.ref b110), .val (.ref b124), .val (.long v20), .second, .val (.long v21), .second, .val (.int v23), .val (.int v25), .val (.int v27), .val (.int v29), .val (.int v31), .unset, .unset] [])) _
              refine XS.iconst X166.here hx rfl (hb hby at_302) ?_
              exact kt
            refine own_arm hgo170 ?_
            exact own_armEnd X166 N166 e166 (by rw [hv35.trans (if_neg hc295_34)]))
        have hgo172 : ∀ t, Steps p.tables e below (T171.setTop (mkF m 303 #[.val (.int p0), .val (.int p1), .val (.int p2), .val (.int p3), .val (.long q4), .second, .val (.long q5), .second, .val (.int v1), .val (.long v8), .second, .val (.int v9), .val (.int v10), .val (.int v11), .val (.int v12), .val (.int v13), .val (.int v14), .val (.ref b110), .val (.ref b124), .val (.long v20), .second, .val (.long v21), .second, .val (.int v23), .val (.int v25), .val (.int v27), .val (.int v29), .val (.int v31), .unset, .unset] [(.int v35)])) t → Steps p.tables e below (T166.setTop (mkF m 283 #[.val (.int p0), .val (.int p1), .val (.int p2), .val (.int p3), .val (.long q4), .second, .val (.long q5), .second, .val (.int v1), .val (.long v8), .second, .val (.int v9), .val (.int v10), .val (.int v11), .val (.int v12), .val (.int v13), .val (.int v14), .val (.ref b110), .val (.ref b124), .val (.long v20), .second, .val (.long v21), .second, .val (.int v23), .val (.int v25), .val (.int v27), .val (.int v29), .val (.int v31), .unset, .unset] [(.int v13)])) t := by
          intro t kt
          show Steps p.tables e below (T166.setTop (mkF m 283 #[.val (.int p0), .val (.int p1), .val (.int p2), .val (.int p3), .val (.long q4), .second, .val (.long q5), .second, .val (.int v1), .val (.long v8), .second, .val (.int v9), .val (.int v10), .val (.int v11), .val (.int v12), .val (.int v13), .val (.int v14), .val (.ref b110), .val (.ref b124), .val (.long v20), .second, .val (.long v21), .second, .val (.int v23), .val (.int v25), .val (.int v27), .val (.int v29), .val (.int v31), .unset, .unset] [(.int v13)])) _
          refine XS.ifNo X166.here hx rfl (hb hby at_283) rfl ((if0 _ _).trans (feq hc283_32).1) ?_
          show Steps p.tables e below (T166.setTop (mkF m 286 #[.val (.int p0), .val (.int p1), .val (.int p2), .val (.int p3), .val (.long q4), .second, .val (.long q5), .second, .val (.int v1), .val (.long v8), .second, .val (.int v9), .val (.int v10), .val (.int v11), .val (.int v12), .val (.int v13), .val (.int v14), .val (.ref b110), .val (.ref b124), .val (.long v20), .second, .val (.long v21), .second, .val (.int v23), .val (.int v25), .val (.int v27), .val (.int v29), .val (.int v31), .unset, .unset] [])) _
          refine XS.aload X166.here hx rfl (hb hby at_286) rfl rfl ?_
          show Steps p.tables e below (T166.setTop (mkF m 288 #[.val (.int p0), .val (.int p1), .val (.int p2), .val (.int p3), .val (.long q4), .second, .val (.long q5), .second, .val (.int v1), .val (.long v8), .second, .val (.int v9), .val (.int v10), .val (.int v11), .val (.int v12), .val (.int v13), .val (.int v14), .val (.ref b110), .val (.ref b124), .val (.long v20), .second, .val (.long v21), .second, .val (.int v23), .val (.int v25), .val (.int v27), .val (.int v29), .val (.int v31), .unset, .unset] [(.ref b110)])) _
          refine XS.iload X166.here hx rfl (hb hby at_288) rfl ?_
          show Steps p.tables e below (T166.setTop (mkF m 290 #[.val (.int p0), .val (.int p1), .val (.int p2), .val (.int p3), .val (.long q4), .second, .val (.long q5), .second, .val (.int v1), .val (.long v8), .second, .val (.int v9), .val (.int v10), .val (.int v11), .val (.int v12), .val (.int v13), .val (.int v14), .val (.ref b110), .val (.ref b124), .val (.long v20), .second, .val (.long v21), .second, .val (.int v23), .val (.int v25), .val (.int v27), .val (.int v29), .val (.int v31), .unset, .unset] [(.int v13), (.ref b110)])) _
          refine XS.iconst X166.here hx rfl (hb hby at_290) ?_
          show Steps p.tables e below (T166.setTop (mkF m 291 #[.val (.int p0), .val (.int p1), .val (.int p2), .val (.int p3), .val (.long q4), .second, .val (.long q5), .second, .val (.int v1), .val (.long v8), .second, .val (.int v9), .val (.int v10), .val (.int v11), .val (.int v12), .val (.int v13), .val (.int v14), .val (.ref b110), .val (.ref b124), .val (.long v20), .second, .val (.long v21), .second, .val (.int v23), .val (.int v25), .val (.int v27), .val (.int v29), .val (.int v31), .unset, .unset] [(.int (1 : Int32)), (.int v13), (.ref b110)])) _
          refine XS.isub X166.here hx rfl (hb hby at_291) rfl ?_
          show Steps p.tables e below (T166.setTop (mkF m 292 #[.val (.int p0), .val (.int p1), .val (.int p2), .val (.int p3), .val (.long q4), .second, .val (.long q5), .second, .val (.int v1), .val (.long v8), .second, .val (.int v9), .val (.int v10), .val (.int v11), .val (.int v12), .val (.int v13), .val (.int v14), .val (.ref b110), .val (.ref b124), .val (.long v20), .second, .val (.long v21), .second, .val (.int v23), .val (.int v25), .val (.int v27), .val (.int v29), .val (.int v31), .unset, .unset] [(.int (v13 - (1 : Int32))), (.ref b110)])) _
          rw [← hv33]
          refine own_ldJ X166 hx hZ e166 F141_0n (j := v33) hin292_168 (g := (mkF m 292 #[.val (.int p0), .val (.int p1), .val (.int p2), .val (.int p3), .val (.long q4), .second, .val (.long q5), .second, .val (.int v1), .val (.long v8), .second, .val (.int v9), .val (.int v10), .val (.int v11), .val (.int v12), .val (.int v13), .val (.int v14), .val (.ref b110), .val (.ref b124), .val (.long v20), .second, .val (.long v21), .second, .val (.int v23), .val (.int v25), .val (.int v27), .val (.int v29), .val (.int v31), .unset, .unset] [(.int v33), (.ref b110)])) rfl rfl (hb hby at_292) _ ?_
          show Steps p.tables e below (T166.setTop (mkF m 293 #[.val (.int p0), .val (.int p1), .val (.int p2), .val (.int p3), .val (.long q4), .second, .val (.long q5), .second, .val (.int v1), .val (.long v8), .second, .val (.int v9), .val (.int v10), .val (.int v11), .val (.int v12), .val (.int v13), .val (.int v14), .val (.ref b110), .val (.ref b124), .val (.long v20), .second, .val (.long v21), .second, .val (.int v23), .val (.int v25), .val (.int v27), .val (.int v29), .val (.int v31), .unset, .unset] [(.long (v19 v33.toNatClampNeg))])) _
          refine XS.lconst X166.here hx rfl (hb hby at_293) ?_
          show Steps p.tables e below (T166.setTop (mkF m 294 #[.val (.int p0), .val (.int p1), .val (.int p2), .val (.int p3), .val (.long q4), .second, .val (.long q5), .second, .val (.int v1), .val (.long v8), .second, .val (.int v9), .val (.int v10), .val (.int v11), .val (.int v12), .val (.int v13), .val (.int v14), .val (.ref b110), .val (.ref b124), .val (.long v20), .second, .val (.long v21), .second, .val (.int v23), .val (.int v25), .val (.int v27), .val (.int v29), .val (.int v31), .unset, .unset] [(.long (0 : Int64)), (.long (v19 v33.toNatClampNeg))])) _
          refine XS.lcmp X166.here hx rfl (hb hby at_294) rfl ?_
          show Steps p.tables e below (T166.setTop (mkF m 295 #[.val (.int p0), .val (.int p1), .val (.int p2), .val (.int p3), .val (.long q4), .second, .val (.long q5), .second, .val (.int v1), .val (.long v8), .second, .val (.int v9), .val (.int v10), .val (.int v11), .val (.int v12), .val (.int v13), .val (.int v14), .val (.ref b110), .val (.ref b124), .val (.long v20), .second, .val (.long v21), .second, .val (.int v23), .val (.int v25), .val (.int v27), .val (.int v29), .val (.int v31), .unset, .unset] [(.int (lcmpW (v19 v33.toNatClampNeg) (0 : Int64)))])) _
          refine st171 _ ?_
          exact kt
        refine own_arm hgo172 ?_
        exact own_armEnd X171 N171 e171 (by rw [hv36.trans (if_neg hc283_32)]))
    have hin309_174 : ¬ (63 : Int32) < 0 ∧ (63 : Int32).toNatClampNeg < 64 := by decide
    obtain ⟨v38, hv38⟩ : ∃ z : Int32, z = (if (v19 63) = (0 : Int64) then (1 : Int32) else (0 : Int32)) := ⟨_, rfl⟩
    obtain ⟨T177, lc177, X177, N177, e177, st177⟩ := own_mrg (n0 := n0) (h := T141.heap) (g := (mkF m 312 #[.val (.int p0), .val (.int p1), .val (.int p2), .val (.int p3), .val (.long q4), .second, .val (.long q5), .second, .val (.int v1), .val (.long v8), .second, .val (.int v9), .val (.int v10), .val (.int v11), .val (.int v12), .val (.int v13), .val (.int v14), .val (.ref b110), .val (.ref b124), .val (.long v20), .second, .val (.long v21), .second, .val (.int v23), .val (.int v25), .val (.int v27), .val (.int v29), .val (.int v31), .val (.int v36), .unset] [(.int (lcmpW (v19 63) (0 : Int64)))])) (g' := (mkF m 320 #[.val (.int p0), .val (.int p1), .val (.int p2), .val (.int p3), .val (.long q4), .second, .val (.long q5), .second, .val (.int v1), .val (.long v8), .second, .val (.int v9), .val (.int v10), .val (.int v11), .val (.int v12), .val (.int v13), .val (.int v14), .val (.ref b110), .val (.ref b124), .val (.long v20), .second, .val (.long v21), .second, .val (.int v23), .val (.int v25), .val (.int v27), .val (.int v29), .val (.int v31), .val (.int v36), .unset] [(.int v38)])) X173 (by
      by_cases hc312_37 : (v19 63) = (0 : Int64)
      · have hgo175 : ∀ t, Steps p.tables e below (T173.setTop (mkF m 320 #[.val (.int p0), .val (.int p1), .val (.int p2), .val (.int p3), .val (.long q4), .second, .val (.long q5), .second, .val (.int v1), .val (.long v8), .second, .val (.int v9), .val (.int v10), .val (.int v11), .val (.int v12), .val (.int v13), .val (.int v14), .val (.ref b110), .val (.ref b124), .val (.long v20), .second, .val (.long v21), .second, .val (.int v23), .val (.int v25), .val (.int v27), .val (.int v29), .val (.int v31), .val (.int v36), .unset] [(.int (1 : Int32))])) t → Steps p.tables e below (T173.setTop (mkF m 312 #[.val (.int p0), .val (.int p1), .val (.int p2), .val (.int p3), .val (.long q4), .second, .val (.long q5), .second, .val (.int v1), .val (.long v8), .second, .val (.int v9), .val (.int v10), .val (.int v11), .val (.int v12), .val (.int v13), .val (.int v14), .val (.ref b110), .val (.ref b124), .val (.long v20), .second, .val (.long v21), .second, .val (.int v23), .val (.int v25), .val (.int v27), .val (.int v29), .val (.int v31), .val (.int v36), .unset] [(.int (lcmpW (v19 63) (0 : Int64)))])) t := by
          intro t kt
          show Steps p.tables e below (T173.setTop (mkF m 312 #[.val (.int p0), .val (.int p1), .val (.int p2), .val (.int p3), .val (.long q4), .second, .val (.long q5), .second, .val (.int v1), .val (.long v8), .second, .val (.int v9), .val (.int v10), .val (.int v11), .val (.int v12), .val (.int v13), .val (.int v14), .val (.ref b110), .val (.ref b124), .val (.long v20), .second, .val (.long v21), .second, .val (.int v23), .val (.int v25), .val (.int v27), .val (.int v29), .val (.int v31), .val (.int v36), .unset] [(.int (lcmpW (v19 63) (0 : Int64)))])) _
          refine XS.ifNo X173.here hx rfl (hb hby at_312) rfl ((if0 _ _).trans (teq (own_lc_eq hc312_37)).2) ?_
          show Steps p.tables e below (T173.setTop (mkF m 315 #[.val (.int p0), .val (.int p1), .val (.int p2), .val (.int p3), .val (.long q4), .second, .val (.long q5), .second, .val (.int v1), .val (.long v8), .second, .val (.int v9), .val (.int v10), .val (.int v11), .val (.int v12), .val (.int v13), .val (.int v14), .val (.ref b110), .val (.ref b124), .val (.long v20), .second, .val (.long v21), .second, .val (.int v23), .val (.int v25), .val (.int v27), .val (.int v29), .val (.int v31), .val (.int v36), .unset] [])) _
          refine XS.iconst X173.here hx rfl (hb hby at_315) ?_
          show Steps p.tables e below (T173.setTop (mkF m 316 #[.val (.int p0), .val (.int p1), .val (.int p2), .val (.int p3), .val (.long q4), .second, .val (.long q5), .second, .val (.int v1), .val (.long v8), .second, .val (.int v9), .val (.int v10), .val (.int v11), .val (.int v12), .val (.int v13), .val (.int v14), .val (.ref b110), .val (.ref b124), .val (.long v20), .second, .val (.long v21), .second, .val (.int v23), .val (.int v25), .val (.int v27), .val (.int v29), .val (.int v31), .val (.int v36), .unset] [(.int (1 : Int32))])) _
          refine XS.goto X173.here hx rfl (pc0 := 316) (pc' := 320) rfl (hb hby at_316) (by decide) (by decide) ?_
          exact kt
        refine own_arm hgo175 ?_
        exact own_armEnd X173 N173 e173 (by rw [hv38.trans (if_pos hc312_37)])
      · have hgo176 : ∀ t, Steps p.tables e below (T173.setTop (mkF m 320 #[.val (.int p0), .val (.int p1), .val (.int p2), .val (.int p3), .val (.long q4), .second, .val (.long q5), .second, .val (.int v1), .val (.long v8), .second, .val (.int v9), .val (.int v10), .val (.int v11), .val (.int v12), .val (.int v13), .val (.int v14), .val (.ref b110), .val (.ref b124), .val (.long v20), .second, .val (.long v21), .second, .val (.int v23), .val (.int v25), .val (.int v27), .val (.int v29), .val (.int v31), .val (.int v36), .unset] [(.int (0 : Int32))])) t → Steps p.tables e below (T173.setTop (mkF m 312 #[.val (.int p0), .val (.int p1), .val (.int p2), .val (.int p3), .val (.long q4), .second, .val (.long q5), .second, .val (.int v1), .val (.long v8), .second, .val (.int v9), .val (.int v10), .val (.int v11), .val (.int v12), .val (.int v13), .val (.int v14), .val (.ref b110), .val (.ref b124), .val (.long v20), .second, .val (.long v21), .second, .val (.int v23), .val (.int v25), .val (.int v27), .val (.int v29), .val (.int v31), .val (.int v36), .unset] [(.int (lcmpW (v19 63) (0 : Int64)))])) t := by
          intro t kt
          show Steps p.tables e below (T173.setTop (mkF m 312 #[.val (.int p0), .val (.int p1), .val (.int p2), .val (.int p3), .val (.long q4), .second, .val (.long q5), .second, .val (.int v1), .val (.long v8), .second, .val (.int v9), .val (.int v10), .val (.int v11), .val (.int v12), .val (.int v13), .val (.int v14), .val (.ref b110), .val (.ref b124), .val (.long v20), .second, .val (.long v21), .second, .val (.int v23), .val (.int v25), .val (.int v27), .val (.int v29), .val (.int v31), .val (.int v36), .unset] [(.int (lcmpW (v19 63) (0 : Int64)))])) _
          refine XS.ifYes X173.here hx rfl (pc0 := 312) (pc' := 319) rfl (hb hby at_312) rfl ((if0 _ _).trans (feq (own_lc_neq hc312_37)).2) (by decide) (by decide) ?_
          show Steps p.tables e below (T173.setTop (mkF m 319 #[.val (.int p0), .val (.int p1), .val (.int p2), .val (.int p3), .val (.long q4), .second, .val (.long q5), .second, .val (.int v1), .val (.long v8), .second, .val (.int v9), .val (.int v10), .val (.int v11), .val (.int v12), .val (.int v13), .val (.int v14), .val (.ref b110), .val (.ref b124), .val (.long v20), .second, .val (.long v21), .second, .val (.int v23), .val (.int v25), .val (.int v27), .val (.int v29), .val (.int v31), .val (.int v36), .unset] [])) _
          refine XS.iconst X173.here hx rfl (hb hby at_319) ?_
          exact kt
        refine own_arm hgo176 ?_
        exact own_armEnd X173 N173 e173 (by rw [hv38.trans (if_neg hc312_37)]))
    obtain ⟨v46, hv46⟩ : ∃ z : Int32, z = (if v38 = (0 : Int32) then (0 : Int32) else (1 : Int32)) := ⟨_, rfl⟩
    obtain ⟨v47, hv47⟩ : ∃ z : Int32, z = (if v36 = (0 : Int32) then (0 : Int32) else v46) := ⟨_, rfl⟩
    obtain ⟨v48, hv48⟩ : ∃ z : Int32, z = (if v31 = (0 : Int32) then (0 : Int32) else v47) := ⟨_, rfl⟩
    obtain ⟨v49, hv49⟩ : ∃ z : Int32, z = (if v29 = (0 : Int32) then (0 : Int32) else v48) := ⟨_, rfl⟩
    obtain ⟨v50, hv50⟩ : ∃ z : Int32, z = (if v27 = (0 : Int32) then (0 : Int32) else v49) := ⟨_, rfl⟩
    obtain ⟨v51, hv51⟩ : ∃ z : Int32, z = (if v25 = (0 : Int32) then (0 : Int32) else v50) := ⟨_, rfl⟩
    obtain ⟨v52, hv52⟩ : ∃ z : Int32, z = (if v23 = (0 : Int32) then (0 : Int32) else v51) := ⟨_, rfl⟩
    obtain ⟨T198, lc198, X198, N198, e198, st198⟩ := own_mrg (n0 := n0) (h := T141.heap) (g := (mkF m 324 #[.val (.int p0), .val (.int p1), .val (.int p2), .val (.int p3), .val (.long q4), .second, .val (.long q5), .second, .val (.int v1), .val (.long v8), .second, .val (.int v9), .val (.int v10), .val (.int v11), .val (.int v12), .val (.int v13), .val (.int v14), .val (.ref b110), .val (.ref b124), .val (.long v20), .second, .val (.long v21), .second, .val (.int v23), .val (.int v25), .val (.int v27), .val (.int v29), .val (.int v31), .val (.int v36), .val (.int v38)] [(.int v23)])) (g' := (mkF m 362 #[.val (.int p0), .val (.int p1), .val (.int p2), .val (.int p3), .val (.long q4), .second, .val (.long q5), .second, .val (.int v1), .val (.long v8), .second, .val (.int v9), .val (.int v10), .val (.int v11), .val (.int v12), .val (.int v13), .val (.int v14), .val (.ref b110), .val (.ref b124), .val (.long v20), .second, .val (.long v21), .second, .val (.int v23), .val (.int v25), .val (.int v27), .val (.int v29), .val (.int v31), .val (.int v36), .val (.int v38)] [(.int v52)])) X177 (by
      by_cases hc324_39 : v23 = (0 : Int32)
      · have hgo178 : ∀ t, Steps p.tables e below (T177.setTop (mkF m 362 #[.val (.int p0), .val (.int p1), .val (.int p2), .val (.int p3), .val (.long q4), .second, .val (.long q5), .second, .val (.int v1), .val (.long v8), .second, .val (.int v9), .val (.int v10), .val (.int v11), .val (.int v12), .val (.int v13), .val (.int v14), .val (.ref b110), .val (.ref b124), .val (.long v20), .second, .val (.long v21), .second, .val (.int v23), .val (.int v25), .val (.int v27), .val (.int v29), .val (.int v31), .val (.int v36), .val (.int v38)] [(.int (0 : Int32))])) t → Steps p.tables e below (T177.setTop (mkF m 324 #[.val (.int p0), .val (.int p1), .val (.int p2), .val (.int p3), .val (.long q4), .second, .val (.long q5), .second, .val (.int v1), .val (.long v8), .second, .val (.int v9), .val (.int v10), .val (.int v11), .val (.int v12), .val (.int v13), .val (.int v14), .val (.ref b110), .val (.ref b124), .val (.long v20), .second, .val (.long v21), .second, .val (.int v23), .val (.int v25), .val (.int v27), .val (.int v29), .val (.int v31), .val (.int v36), .val (.int v38)] [(.int v23)])) t := by
          intro t kt
          show Steps p.tables e below (T177.setTop (mkF m 324 #[.val (.int p0), .val (.int p1), .val (.int p2), .val (.int p3), .val (.long q4), .second, .val (.long q5), .second, .val (.int v1), .val (.long v8), .second, .val (.int v9), .val (.int v10), .val (.int v11), .val (.int v12), .val (.int v13), .val (.int v14), .val (.ref b110), .val (.ref b124), .val (.long v20), .second, .val (.long v21), .second, .val (.int v23), .val (.int v25), .val (.int v27), .val (.int v29), .val (.int v31), .val (.int v36), .val (.int v38)] [(.int v23)])) _
          refine XS.ifYes X177.here hx rfl (pc0 := 324) (pc' := 361) rfl (hb hby at_324) rfl ((if0 _ _).trans (teq hc324_39).1) (by decide) (by decide) ?_
          show Steps p.tables e below (T177.setTop (mkF m 361 #[.val (.int p0), .val (.int p1), .val (.int p2), .val (.int p3), .val (.long q4), .second, .val (.long q5), .second, .val (.int v1), .val (.long v8), .second, .val (.int v9), .val (.int v10), .val (.int v11), .val (.int v12), .val (.int v13), .val (.int v14), .val (.ref b110), .val (.ref b124), .val (.long v20), .second, .val (.long v21), .second, .val (.int v23), .val (.int v25), .val (.int v27), .val (.int v29), .val (.int v31), .val (.int v36), .val (.int v38)] [])) _
          refine XS.iconst X177.here hx rfl (hb hby at_361) ?_
          exact kt
        refine own_arm hgo178 ?_
        exact own_armEnd X177 N177 e177 (by rw [hv52.trans (if_pos hc324_39)])
      · obtain ⟨T196, lc196, X196, N196, e196, st196⟩ := own_mrg (n0 := n0) (h := T141.heap) (g := (mkF m 329 #[.val (.int p0), .val (.int p1), .val (.int p2), .val (.int p3), .val (.long q4), .second, .val (.long q5), .second, .val (.int v1), .val (.long v8), .second, .val (.int v9), .val (.int v10), .val (.int v11), .val (.int v12), .val (.int v13), .val (.int v14), .val (.ref b110), .val (.ref b124), .val (.long v20), .second, .val (.long v21), .second, .val (.int v23), .val (.int v25), .val (.int v27), .val (.int v29), .val (.int v31), .val (.int v36), .val (.int v38)] [(.int v25)])) (g' := (mkF m 362 #[.val (.int p0), .val (.int p1), .val (.int p2), .val (.int p3), .val (.long q4), .second, .val (.long q5), .second, .val (.int v1), .val (.long v8), .second, .val (.int v9), .val (.int v10), .val (.int v11), .val (.int v12), .val (.int v13), .val (.int v14), .val (.ref b110), .val (.ref b124), .val (.long v20), .second, .val (.long v21), .second, .val (.int v23), .val (.int v25), .val (.int v27), .val (.int v29), .val (.int v31), .val (.int v36), .val (.int v38)] [(.int v51)])) X177 (by
          by_cases hc329_40 : v25 = (0 : Int32)
          · have hgo179 : ∀ t, Steps p.tables e below (T177.setTop (mkF m 362 #[.val (.int p0), .val (.int p1), .val (.int p2), .val (.int p3), .val (.long q4), .second, .val (.long q5), .second, .val (.int v1), .val (.long v8), .second, .val (.int v9), .val (.int v10), .val (.int v11), .val (.int v12), .val (.int v13), .val (.int v14), .val (.ref b110), .val (.ref b124), .val (.long v20), .second, .val (.long v21), .second, .val (.int v23), .val (.int v25), .val (.int v27), .val (.int v29), .val (.int v31), .val (.int v36), .val (.int v38)] [(.int (0 : Int32))])) t → Steps p.tables e below (T177.setTop (mkF m 329 #[.val (.int p0), .val (.int p1), .val (.int p2), .val (.int p3), .val (.long q4), .second, .val (.long q5), .second, .val (.int v1), .val (.long v8), .second, .val (.int v9), .val (.int v10), .val (.int v11), .val (.int v12), .val (.int v13), .val (.int v14), .val (.ref b110), .val (.ref b124), .val (.long v20), .second, .val (.long v21), .second, .val (.int v23), .val (.int v25), .val (.int v27), .val (.int v29), .val (.int v31), .val (.int v36), .val (.int v38)] [(.int v25)])) t := by
              intro t kt
              show Steps p.tables e below (T177.setTop (mkF m 329 #[.val (.int p0), .val (.int p1), .val (.int p2), .val (.int p3), .val (.long q4), .second, .val (.long q5), .second, .val (.int v1), .val (.long v8), .second, .val (.int v9), .val (.int v10), .val (.int v11), .val (.int v12), .val (.int v13), .val (.int v14), .val (.ref b110), .val (.ref b124), .val (.long v20), .second, .val (.long v21), .second, .val (.int v23), .val (.int v25), .val (.int v27), .val (.int v29), .val (.int v31), .val (.int v36), .val (.int v38)] [(.int v25)])) _
              refine XS.ifYes X177.here hx rfl (pc0 := 329) (pc' := 361) rfl (hb hby at_329) rfl ((if0 _ _).trans (teq hc329_40).1) (by decide) (by decide) ?_
              show Steps p.tables e below (T177.setTop (mkF m 361 #[.val (.int p0), .val (.int p1), .val (.int p2), .val (.int p3), .val (.long q4), .second, .val (.long q5), .second, .val (.int v1), .val (.long v8), .second, .val (.int v9), .val (.int v10), .val (.int v11), .val (.int v12), .val (.int v13), .val (.int v14), .val (.ref b110), .val (.ref b124), .val (.long v20), .second, .val (.long v21), .second, .val (.int v23), .val (.int v25), .val (.int v27), .val (.int v29), .val (.int v31), .val (.int v36), .val (.int v38)] [])) _
              refine XS.iconst X177.here hx rfl (hb hby at_361) ?_
              exact kt
            refine own_arm hgo179 ?_
            exact own_armEnd X177 N177 e177 (by rw [hv51.trans (if_pos hc329_40)])
          · obtain ⟨T194, lc194, X194, N194, e194, st194⟩ := own_mrg (n0 := n0) (h := T141.heap) (g := (mkF m 334 #[.val (.int p0), .val (.int p1), .val (.int p2), .val (.int p3), .val (.long q4), .second, .val (.long q5), .second, .val (.int v1), .val (.long v8), .second, .val (.int v9), .val (.int v10), .val (.int v11), .val (.int v12), .val (.int v13), .val (.int v14), .val (.ref b110), .val (.ref b124), .val (.long v20), .second, .val (.long v21), .second, .val (.int v23), .val (.int v25), .val (.int v27), .val (.int v29), .val (.int v31), .val (.int v36), .val (.int v38)] [(.int v27)])) (g' := (mkF m 362 #[.val (.int p0), .val (.int p1), .val (.int p2), .val (.int p3), .val (.long q4), .second, .val (.long q5), .second, .val (.int v1), .val (.long v8), .second, .val (.int v9), .val (.int v10), .val (.int v11), .val (.int v12), .val (.int v13), .val (.int v14), .val (.ref b110), .val (.ref b124), .val (.long v20), .second, .val (.long v21), .second, .val (.int v23), .val (.int v25), .val (.int v27), .val (.int v29), .val (.int v31), .val (.int v36), .val (.int v38)] [(.int v50)])) X177 (by
              by_cases hc334_41 : v27 = (0 : Int32)
              · have hgo180 : ∀ t, Steps p.tables e below (T177.setTop (mkF m 362 #[.val (.int p0), .val (.int p1), .val (.int p2), .val (.int p3), .val (.long q4), .second, .val (.long q5), .second, .val (.int v1), .val (.long v8), .second, .val (.int v9), .val (.int v10), .val (.int v11), .val (.int v12), .val (.int v13), .val (.int v14), .val (.ref b110), .val (.ref b124), .val (.long v20), .second, .val (.long v21), .second, .val (.int v23), .val (.int v25), .val (.int v27), .val (.int v29), .val (.int v31), .val (.int v36), .val (.int v38)] [(.int (0 : Int32))])) t → Steps p.tables e below (T177.setTop (mkF m 334 #[.val (.int p0), .val (.int p1), .val (.int p2), .val (.int p3), .val (.long q4), .second, .val (.long q5), .second, .val (.int v1), .val (.long v8), .second, .val (.int v9), .val (.int v10), .val (.int v11), .val (.int v12), .val (.int v13), .val (.int v14), .val (.ref b110), .val (.ref b124), .val (.long v20), .second, .val (.long v21), .second, .val (.int v23), .val (.int v25), .val (.int v27), .val (.int v29), .val (.int v31), .val (.int v36), .val (.int v38)] [(.int v27)])) t := by
                  intro t kt
                  show Steps p.tables e below (T177.setTop (mkF m 334 #[.val (.int p0), .val (.int p1), .val (.int p2), .val (.int p3), .val (.long q4), .second, .val (.long q5), .second, .val (.int v1), .val (.long v8), .second, .val (.int v9), .val (.int v10), .val (.int v11), .val (.int v12), .val (.int v13), .val (.int v14), .val (.ref b110), .val (.ref b124), .val (.long v20), .second, .val (.long v21), .second, .val (.int v23), .val (.int v25), .val (.int v27), .val (.int v29), .val (.int v31), .val (.int v36), .val (.int v38)] [(.int v27)])) _
                  refine XS.ifYes X177.here hx rfl (pc0 := 334) (pc' := 361) rfl (hb hby at_334) rfl ((if0 _ _).trans (teq hc334_41).1) (by decide) (by decide) ?_
                  show Steps p.tables e below (T177.setTop (mkF m 361 #[.val (.int p0), .val (.int p1), .val (.int p2), .val (.int p3), .val (.long q4), .second, .val (.long q5), .second, .val (.int v1), .val (.long v8), .second, .val (.int v9), .val (.int v10), .val (.int v11), .val (.int v12), .val (.int v13), .val (.int v14), .val (.ref b110), .val (.ref b124), .val (.long v20), .second, .val (.long v21), .second, .val (.int v23), .val (.int v25), .val (.int v27), .val (.int v29), .val (.int v31), .val (.int v36), .val (.int v38)] [])) _
                  refine XS.iconst X177.here hx rfl (hb hby at_361) ?_
                  exact kt
                refine own_arm hgo180 ?_
                exact own_armEnd X177 N177 e177 (by rw [hv50.trans (if_pos hc334_41)])
              · obtain ⟨T192, lc192, X192, N192, e192, st192⟩ := own_mrg (n0 := n0) (h := T141.heap) (g := (mkF m 339 #[.val (.int p0), .val (.int p1), .val (.int p2), .val (.int p3), .val (.long q4), .second, .val (.long q5), .second, .val (.int v1), .val (.long v8), .second, .val (.int v9), .val (.int v10), .val (.int v11), .val (.int v12), .val (.int v13), .val (.int v14), .val (.ref b110), .val (.ref b124), .val (.long v20), .second, .val (.long v21), .second, .val (.int v23), .val (.int v25), .val (.int v27), .val (.int v29), .val (.int v31), .val (.int v36), .val (.int v38)] [(.int v29)])) (g' := (mkF m 362 #[.val (.int p0), .val (.int p1), .val (.int p2), .val (.int p3), .val (.long q4), .second, .val (.long q5), .second, .val (.int v1), .val (.long v8), .second, .val (.int v9), .val (.int v10), .val (.int v11), .val (.int v12), .val (.int v13), .val (.int v14), .val (.ref b110), .val (.ref b124), .val (.long v20), .second, .val (.long v21), .second, .val (.int v23), .val (.int v25), .val (.int v27), .val (.int v29), .val (.int v31), .val (.int v36), .val (.int v38)] [(.int v49)])) X177 (by
                  by_cases hc339_42 : v29 = (0 : Int32)
                  · have hgo181 : ∀ t, Steps p.tables e below (T177.setTop (mkF m 362 #[.val (.int p0), .val (.int p1), .val (.int p2), .val (.int p3), .val (.long q4), .second, .val (.long q5), .second, .val (.int v1), .val (.long v8), .second, .val (.int v9), .val (.int v10), .val (.int v11), .val (.int v12), .val (.int v13), .val (.int v14), .val (.ref b110), .val (.ref b124), .val (.long v20), .second, .val (.long v21), .second, .val (.int v23), .val (.int v25), .val (.int v27), .val (.int v29), .val (.int v31), .val (.int v36), .val (.int v38)] [(.int (0 : Int32))])) t → Steps p.tables e below (T177.setTop (mkF m 339 #[.val (.int p0), .val (.int p1), .val (.int p2), .val (.int p3), .val (.long q4), .second, .val (.long q5), .second, .val (.int v1), .val (.long v8), .second, .val (.int v9), .val (.int v10), .val (.int v11), .val (.int v12), .val (.int v13), .val (.int v14), .val (.ref b110), .val (.ref b124), .val (.long v20), .second, .val (.long v21), .second, .val (.int v23), .val (.int v25), .val (.int v27), .val (.int v29), .val (.int v31), .val (.int v36), .val (.int v38)] [(.int v29)])) t := by
                      intro t kt
                      show Steps p.tables e below (T177.setTop (mkF m 339 #[.val (.int p0), .val (.int p1), .val (.int p2), .val (.int p3), .val (.long q4), .second, .val (.long q5), .second, .val (.int v1), .val (.long v8), .second, .val (.int v9), .val (.int v10), .val (.int v11), .val (.int v12), .val (.int v13), .val (.int v14), .val (.ref b110), .val (.ref b124), .val (.long v20), .second, .val (.long v21), .second, .val (.int v23), .val (.int v25), .val (.int v27), .val (.int v29), .val (.int v31), .val (.int v36), .val (.int v38)] [(.int v29)])) _
                      refine XS.ifYes X177.here hx rfl (pc0 := 339) (pc' := 361) rfl (hb hby at_339) rfl ((if0 _ _).trans (teq hc339_42).1) (by decide) (by decide) ?_
                      show Steps p.tables e below (T177.setTop (mkF m 361 #[.val (.int p0), .val (.int p1), .val (.int p2), .val (.int p3), .val (.long q4), .second, .val (.long q5), .second, .val (.int v1), .val (.long v8), .second, .val (.int v9), .val (.int v10), .val (.int v11), .val (.int v12), .val (.int v13), .val (.int v14), .val (.ref b110), .val (.ref b124), .val (.long v20), .second, .val (.long v21), .second, .val (.int v23), .val (.int v25), .val (.int v27), .val (.int v29), .val (.int v31), .val (.int v36), .val (.int v38)] [])) _
                      refine XS.iconst X177.here hx rfl (hb hby at_361) ?_
                      exact kt
                    refine own_arm hgo181 ?_
                    exact own_armEnd X177 N177 e177 (by rw [hv49.trans (if_pos hc339_42)])
                  · obtain ⟨T190, lc190, X190, N190, e190, st190⟩ := own_mrg (n0 := n0) (h := T141.heap) (g := (mkF m 344 #[.val (.int p0), .val (.int p1), .val (.int p2), .val (.int p3), .val (.long q4), .second, .val (.long q5), .second, .val (.int v1), .val (.long v8), .second, .val (.int v9), .val (.int v10), .val (.int v11), .val (.int v12), .val (.int v13), .val (.int v14), .val (.ref b110), .val (.ref b124), .val (.long v20), .second, .val (.long v21), .second, .val (.int v23), .val (.int v25), .val (.int v27), .val (.int v29), .val (.int v31), .val (.int v36), .val (.int v38)] [(.int v31)])) (g' := (mkF m 362 #[.val (.int p0), .val (.int p1), .val (.int p2), .val (.int p3), .val (.long q4), .second, .val (.long q5), .second, .val (.int v1), .val (.long v8), .second, .val (.int v9), .val (.int v10), .val (.int v11), .val (.int v12), .val (.int v13), .val (.int v14), .val (.ref b110), .val (.ref b124), .val (.long v20), .second, .val (.long v21), .second, .val (.int v23), .val (.int v25), .val (.int v27), .val (.int v29), .val (.int v31), .val (.int v36), .val (.int v38)] [(.int v48)])) X177 (by
                      by_cases hc344_43 : v31 = (0 : Int32)
                      · have hgo182 : ∀ t, Steps p.tables e below (T177.setTop (mkF m 362 #[.val (.int p0), .val (.int p1), .val (.int p2), .val (.int p3), .val (.long q4), .second, .val (.long q5), .second, .val (.int v1), .val (.long v8), .second, .val (.int v9), .val (.int v10), .val (.int v11), .val (.int v12), .val (.int v13), .val (.int v14), .val (.ref b110), .val (.ref b124), .val (.long v20), .second, .val (.long v21), .second, .val (.int v23), .val (.int v25), .val (.int v27), .val (.int v29), .val (.int v31), .val (.int v36), .val (.int v38)] [(.int (0 : Int32))])) t → Steps p.tables e below (T177.setTop (mkF m 344 #[.val (.int p0), .val (.int p1), .val (.int p2), .val (.int p3), .val (.long q4), .second, .val (.long q5), .second, .val (.int v1), .val (.long v8), .second, .val (.int v9), .val (.int v10), .val (.int v11), .val (.int v12), .val (.int v13), .val (.int v14), .val (.ref b110), .val (.ref b124), .val (.long v20), .second, .val (.long v21), .second, .val (.int v23), .val (.int v25), .val (.int v27), .val (.int v29), .val (.int v31), .val (.int v36), .val (.int v38)] [(.int v31)])) t := by
                          intro t kt
                          show Steps p.tables e below (T177.setTop (mkF m 344 #[.val (.int p0), .val (.int p1), .val (.int p2), .val (.int p3), .val (.long q4), .second, .val (.long q5), .second, .val (.int v1), .val (.long v8), .second, .val (.int v9), .val (.int v10), .val (.int v11), .val (.int v12), .val (.int v13), .val (.int v14), .val (.ref b110), .val (.ref b124), .val (.long v20), .second, .val (.long v21), .second, .val (.int v23), .val (.int v25), .val (.int v27), .val (.int v29), .val (.int v31), .val (.int v36), .val (.int v38)] [(.int v31)])) _
                          refine XS.ifYes X177.here hx rfl (pc0 := 344) (pc' := 361) rfl (hb hby at_344) rfl ((if0 _ _).trans (teq hc344_43).1) (by decide) (by decide) ?_
                          show Steps p.tables e below (T177.setTop (mkF m 361 #[.val (.int p0), .val (.int p1), .val (.int p2), .val (.int p3), .val (.long q4), .second, .val (.long q5), .second, .val (.int v1), .val (.long v8), .second, .val (.int v9), .val (.int v10), .val (.int v11), .val (.int v12), .val (.int v13), .val (.int v14), .val (.ref b110), .val (.ref b124), .val (.long v20), .second, .val (.long v21), .second, .val (.int v23), .val (.int v25), .val (.int v27), .val (.int v29), .val (.int v31), .val (.int v36), .val (.int v38)] [])) _
                          refine XS.iconst X177.here hx rfl (hb hby at_361) ?_
                          exact kt
                        refine own_arm hgo182 ?_
                        exact own_armEnd X177 N177 e177 (by rw [hv48.trans (if_pos hc344_43)])
                      · obtain ⟨T188, lc188, X188, N188, e188, st188⟩ := own_mrg (n0 := n0) (h := T141.heap) (g := (mkF m 349 #[.val (.int p0), .val (.int p1), .val (.int p2), .val (.int p3), .val (.long q4), .second, .val (.long q5), .second, .val (.int v1), .val (.long v8), .second, .val (.int v9), .val (.int v10), .val (.int v11), .val (.int v12), .val (.int v13), .val (.int v14), .val (.ref b110), .val (.ref b124), .val (.long v20), .second, .val (.long v21), .second, .val (.int v23), .val (.int v25), .val (.int v27), .val (.int v29), .val (.int v31), .val (.int v36), .val (.int v38)] [(.int v36)])) (g' := (mkF m 362 #[.val (.int p0), .val (.int p1), .val (.int p2), .val (.int p3), .val (.long q4), .second, .val (.long q5), .second, .val (.int v1), .val (.long v8), .second, .val (.int v9), .val (.int v10), .val (.int v11), .val (.int v12), .val (.int v13), .val (.int v14), .val (.ref b110), .val (.ref b124), .val (.long v20), .second, .val (.long v21), .second, .val (.int v23), .val (.int v25), .val (.int v27), .val (.int v29), .val (.int v31), .val (.int v36), .val (.int v38)] [(.int v47)])) X177 (by
                          by_cases hc349_44 : v36 = (0 : Int32)
                          · have hgo183 : ∀ t, Steps p.tables e below (T177.setTop (mkF m 362 #[.val (.int p0), .val (.int p1), .val (.int p2), .val (.int p3), .val (.long q4), .second, .val (.long q5), .second, .val (.int v1), .val (.long v8), .second, .val (.int v9), .val (.int v10), .val (.int v11), .val (.int v12), .val (.int v13), .val (.int v14), .val (.ref b110), .val (.ref b124), .val (.long v20), .second, .val (.long v21), .second, .val (.int v23), .val (.int v25), .val (.int v27), .val (.int v29), .val (.int v31), .val (.int v36), .val (.int v38)] [(.int (0 : Int32))])) t → Steps p.tables e below (T177.setTop (mkF m 349 #[.val (.int p0), .val (.int p1), .val (.int p2), .val (.int p3), .val (.long q4), .second, .val (.long q5), .second, .val (.int v1), .val (.long v8), .second, .val (.int v9), .val (.int v10), .val (.int v11), .val (.int v12), .val (.int v13), .val (.int v14), .val (.ref b110), .val (.ref b124), .val (.long v20), .second, .val (.long v21), .second, .val (.int v23), .val (.int v25), .val (.int v27), .val (.int v29), .val (.int v31), .val (.int v36), .val (.int v38)] [(.int v36)])) t := by
                              intro t kt
                              show Steps p.tables e below (T177.setTop (mkF m 349 #[.val (.int p0), .val (.int p1), .val (.int p2), .val (.int p3), .val (.long q4), .second, .val (.long q5), .second, .val (.int v1), .val (.long v8), .second, .val (.int v9), .val (.int v10), .val (.int v11), .val (.int v12), .val (.int v13), .val (.int v14), .val (.ref b110), .val (.ref b124), .val (.long v20), .second, .val (.long v21), .second, .val (.int v23), .val (.int v25), .val (.int v27), .val (.int v29), .val (.int v31), .val (.int v36), .val (.int v38)] [(.int v36)])) _
                              refine XS.ifYes X177.here hx rfl (pc0 := 349) (pc' := 361) rfl (hb hby at_349) rfl ((if0 _ _).trans (teq hc349_44).1) (by decide) (by decide) ?_
                              show Steps p.tables e below (T177.setTop (mkF m 361 #[.val (.int p0), .val (.int p1), .val (.int p2), .val (.int p3), .val (.long q4), .second, .val (.long q5), .second, .val (.int v1), .val (.long v8), .second, .val (.int v9), .val (.int v10), .val (.int v11), .val (.int v12), .val (.int v13), .val (.int v14), .val (.ref b110), .val (.ref b124), .val (.long v20), .second, .val (.long v21), .second, .val (.int v23), .val (.int v25), .val (.int v27), .val (.int v29), .val (.int v31), .val (.int v36), .val (.int v38)] [])) _
                              refine XS.iconst X177.here hx rfl (hb hby at_361) ?_
                              exact kt
                            refine own_arm hgo183 ?_
                            exact own_armEnd X177 N177 e177 (by rw [hv47.trans (if_pos hc349_44)])
                          · obtain ⟨T186, lc186, X186, N186, e186, st186⟩ := own_mrg (n0 := n0) (h := T141.heap) (g := (mkF m 354 #[.val (.int p0), .val (.int p1), .val (.int p2), .val (.int p3), .val (.long q4), .second, .val (.long q5), .second, .val (.int v1), .val (.long v8), .second, .val (.int v9), .val (.int v10), .val (.int v11), .val (.int v12), .val (.int v13), .val (.int v14), .val (.ref b110), .val (.ref b124), .val (.long v20), .second, .val (.long v21), .second, .val (.int v23), .val (.int v25), .val (.int v27), .val (.int v29), .val (.int v31), .val (.int v36), .val (.int v38)] [(.int v38)])) (g' := (mkF m 362 #[.val (.int p0), .val (.int p1), .val (.int p2), .val (.int p3), .val (.long q4), .second, .val (.long q5), .second, .val (.int v1), .val (.long v8), .second, .val (.int v9), .val (.int v10), .val (.int v11), .val (.int v12), .val (.int v13), .val (.int v14), .val (.ref b110), .val (.ref b124), .val (.long v20), .second, .val (.long v21), .second, .val (.int v23), .val (.int v25), .val (.int v27), .val (.int v29), .val (.int v31), .val (.int v36), .val (.int v38)] [(.int v46)])) X177 (by
                              by_cases hc354_45 : v38 = (0 : Int32)
                              · have hgo184 : ∀ t, Steps p.tables e below (T177.setTop (mkF m 362 #[.val (.int p0), .val (.int p1), .val (.int p2), .val (.int p3), .val (.long q4), .second, .val (.long q5), .second, .val (.int v1), .val (.long v8), .second, .val (.int v9), .val (.int v10), .val (.int v11), .val (.int v12), .val (.int v13), .val (.int v14), .val (.ref b110), .val (.ref b124), .val (.long v20), .second, .val (.long v21), .second, .val (.int v23), .val (.int v25), .val (.int v27), .val (.int v29), .val (.int v31), .val (.int v36), .val (.int v38)] [(.int (0 : Int32))])) t → Steps p.tables e below (T177.setTop (mkF m 354 #[.val (.int p0), .val (.int p1), .val (.int p2), .val (.int p3), .val (.long q4), .second, .val (.long q5), .second, .val (.int v1), .val (.long v8), .second, .val (.int v9), .val (.int v10), .val (.int v11), .val (.int v12), .val (.int v13), .val (.int v14), .val (.ref b110), .val (.ref b124), .val (.long v20), .second, .val (.long v21), .second, .val (.int v23), .val (.int v25), .val (.int v27), .val (.int v29), .val (.int v31), .val (.int v36), .val (.int v38)] [(.int v38)])) t := by
                                  intro t kt
                                  show Steps p.tables e below (T177.setTop (mkF m 354 #[.val (.int p0), .val (.int p1), .val (.int p2), .val (.int p3), .val (.long q4), .second, .val (.long q5), .second, .val (.int v1), .val (.long v8), .second, .val (.int v9), .val (.int v10), .val (.int v11), .val (.int v12), .val (.int v13), .val (.int v14), .val (.ref b110), .val (.ref b124), .val (.long v20), .second, .val (.long v21), .second, .val (.int v23), .val (.int v25), .val (.int v27), .val (.int v29), .val (.int v31), .val (.int v36), .val (.int v38)] [(.int v38)])) _
                                  refine XS.ifYes X177.here hx rfl (pc0 := 354) (pc' := 361) rfl (hb hby at_354) rfl ((if0 _ _).trans (teq hc354_45).1) (by decide) (by decide) ?_
                                  show Steps p.tables e below (T177.setTop (mkF m 361 #[.val (.int p0), .val (.int p1), .val (.int p2), .val (.int p3), .val (.long q4), .second, .val (.long q5), .second, .val (.int v1), .val (.long v8), .second, .val (.int v9), .val (.int v10), .val (.int v11), .val (.int v12), .val (.int v13), .val (.int v14), .val (.ref b110), .val (.ref b124), .val (.long v20), .second, .val (.long v21), .second, .val (.int v23), .val (.int v25), .val (.int v27), .val (.int v29), .val (.int v31), .val (.int v36), .val (.int v38)] [])) _
                                  refine XS.iconst X177.here hx rfl (hb hby at_361) ?_
                                  exact kt
                                refine own_arm hgo184 ?_
                                exact own_armEnd X177 N177 e177 (by rw [hv46.trans (if_pos hc354_45)])
                              · have hgo185 : ∀ t, Steps p.tables e below (T177.setTop (mkF m 362 #[.val (.int p0), .val (.int p1), .val (.int p2), .val (.int p3), .val (.long q4), .second, .val (.long q5), .second, .val (.int v1), .val (.long v8), .second, .val (.int v9), .val (.int v10), .val (.int v11), .val (.int v12), .val (.int v13), .val (.int v14), .val (.ref b110), .val (.ref b124), .val (.long v20), .second, .val (.long v21), .second, .val (.int v23), .val (.int v25), .val (.int v27), .val (.int v29), .val (.int v31), .val (.int v36), .val (.int v38)] [(.int (1 : Int32))])) t → Steps p.tables e below (T177.setTop (mkF m 354 #[.val (.int p0), .val (.int p1), .val (.int p2), .val (.int p3), .val (.long q4), .second, .val (.long q5), .second, .val (.int v1), .val (.long v8), .second, .val (.int v9), .val (.int v10), .val (.int v11), .val (.int v12), .val (.int v13), .val (.int v14), .val (.ref b110), .val (.ref b124), .val (.long v20), .second, .val (.long v21), .second, .val (.int v23), .val (.int v25), .val (.int v27), .val (.int v29), .val (.int v31), .val (.int v36), .val (.int v38)] [(.int v38)])) t := by
                                  intro t kt
                                  show Steps p.tables e below (T177.setTop (mkF m 354 #[.val (.int p0), .val (.int p1), .val (.int p2), .val (.int p3), .val (.long q4), .second, .val (.long q5), .second, .val (.int v1), .val (.long v8), .second, .val (.int v9), .val (.int v10), .val (.int v11), .val (.int v12), .val (.int v13), .val (.int v14), .val (.ref b110), .val (.ref b124), .val (.long v20), .second, .val (.long v21), .second, .val (.int v23), .val (.int v25), .val (.int v27), .val (.int v29), .val (.int v31), .val (.int v36), .val (.int v38)] [(.int v38)])) _
                                  refine XS.ifNo X177.here hx rfl (hb hby at_354) rfl ((if0 _ _).trans (feq hc354_45).1) ?_
                                  show Steps p.tables e below (T177.setTop (mkF m 357 #[.val (.int p0), .val (.int p1), .val (.int p2), .val (.int p3), .val (.long q4), .second, .val (.long q5), .second, .val (.int v1), .val (.long v8), .second, .val (.int v9), .val (.int v10), .val (.int v11), .val (.int v12), .val (.int v13), .val (.int v14), .val (.ref b110), .val (.ref b124), .val (.long v20), .second, .val (.long v21), .second, .val (.int v23), .val (.int v25), .val (.int v27), .val (.int v29), .val (.int v31), .val (.int v36), .val (.int v38)] [])) _
                                  refine XS.iconst X177.here hx rfl (hb hby at_357) ?_
                                  show Steps p.tables e below (T177.setTop (mkF m 358 #[.val (.int p0), .val (.int p1), .val (.int p2), .val (.int p3), .val (.long q4), .second, .val (.long q5), .second, .val (.int v1), .val (.long v8), .second, .val (.int v9), .val (.int v10), .val (.int v11), .val (.int v12), .val (.int v13), .val (.int v14), .val (.ref b110), .val (.ref b124), .val (.long v20), .second, .val (.long v21), .second, .val (.int v23), .val (.int v25), .val (.int v27), .val (.int v29), .val (.int v31), .val (.int v36), .val (.int v38)] [(.int (1 : Int32))])) _
                                  refine XS.goto X177.here hx rfl (pc0 := 358) (pc' := 362) rfl (hb hby at_358) (by decide) (by decide) ?_
                                  exact kt
                                refine own_arm hgo185 ?_
                                exact own_armEnd X177 N177 e177 (by rw [hv46.trans (if_neg hc354_45)]))
                            have hgo187 : ∀ t, Steps p.tables e below (T186.setTop (mkF m 362 #[.val (.int p0), .val (.int p1), .val (.int p2), .val (.int p3), .val (.long q4), .second, .val (.long q5), .second, .val (.int v1), .val (.long v8), .second, .val (.int v9), .val (.int v10), .val (.int v11), .val (.int v12), .val (.int v13), .val (.int v14), .val (.ref b110), .val (.ref b124), .val (.long v20), .second, .val (.long v21), .second, .val (.int v23), .val (.int v25), .val (.int v27), .val (.int v29), .val (.int v31), .val (.int v36), .val (.int v38)] [(.int v46)])) t → Steps p.tables e below (T177.setTop (mkF m 349 #[.val (.int p0), .val (.int p1), .val (.int p2), .val (.int p3), .val (.long q4), .second, .val (.long q5), .second, .val (.int v1), .val (.long v8), .second, .val (.int v9), .val (.int v10), .val (.int v11), .val (.int v12), .val (.int v13), .val (.int v14), .val (.ref b110), .val (.ref b124), .val (.long v20), .second, .val (.long v21), .second, .val (.int v23), .val (.int v25), .val (.int v27), .val (.int v29), .val (.int v31), .val (.int v36), .val (.int v38)] [(.int v36)])) t := by
                              intro t kt
                              show Steps p.tables e below (T177.setTop (mkF m 349 #[.val (.int p0), .val (.int p1), .val (.int p2), .val (.int p3), .val (.long q4), .second, .val (.long q5), .second, .val (.int v1), .val (.long v8), .second, .val (.int v9), .val (.int v10), .val (.int v11), .val (.int v12), .val (.int v13), .val (.int v14), .val (.ref b110), .val (.ref b124), .val (.long v20), .second, .val (.long v21), .second, .val (.int v23), .val (.int v25), .val (.int v27), .val (.int v29), .val (.int v31), .val (.int v36), .val (.int v38)] [(.int v36)])) _
                              refine XS.ifNo X177.here hx rfl (hb hby at_349) rfl ((if0 _ _).trans (feq hc349_44).1) ?_
                              show Steps p.tables e below (T177.setTop (mkF m 352 #[.val (.int p0), .val (.int p1), .val (.int p2), .val (.int p3), .val (.long q4), .second, .val (.long q5), .second, .val (.int v1), .val (.long v8), .second, .val (.int v9), .val (.int v10), .val (.int v11), .val (.int v12), .val (.int v13), .val (.int v14), .val (.ref b110), .val (.ref b124), .val (.long v20), .second, .val (.long v21), .second, .val (.int v23), .val (.int v25), .val (.int v27), .val (.int v29), .val (.int v31), .val (.int v36), .val (.int v38)] [])) _
                              refine XS.iload X177.here hx rfl (hb hby at_352) rfl ?_
                              show Steps p.tables e below (T177.setTop (mkF m 354 #[.val (.int p0), .val (.int p1), .val (.int p2), .val (.int p3), .val (.long q4), .second, .val (.long q5), .second, .val (.int v1), .val (.long v8), .second, .val (.int v9), .val (.int v10), .val (.int v11), .val (.int v12), .val (.int v13), .val (.int v14), .val (.ref b110), .val (.ref b124), .val (.long v20), .second, .val (.long v21), .second, .val (.int v23), .val (.int v25), .val (.int v27), .val (.int v29), .val (.int v31), .val (.int v36), .val (.int v38)] [(.int v38)])) _
                              refine st186 _ ?_
                              exact kt
                            refine own_arm hgo187 ?_
                            exact own_armEnd X186 N186 e186 (by rw [hv47.trans (if_neg hc349_44)]))
                        have hgo189 : ∀ t, Steps p.tables e below (T188.setTop (mkF m 362 #[.val (.int p0), .val (.int p1), .val (.int p2), .val (.int p3), .val (.long q4), .second, .val (.long q5), .second, .val (.int v1), .val (.long v8), .second, .val (.int v9), .val (.int v10), .val (.int v11), .val (.int v12), .val (.int v13), .val (.int v14), .val (.ref b110), .val (.ref b124), .val (.long v20), .second, .val (.long v21), .second, .val (.int v23), .val (.int v25), .val (.int v27), .val (.int v29), .val (.int v31), .val (.int v36), .val (.int v38)] [(.int v47)])) t → Steps p.tables e below (T177.setTop (mkF m 344 #[.val (.int p0), .val (.int p1), .val (.int p2), .val (.int p3), .val (.long q4), .second, .val (.long q5), .second, .val (.int v1), .val (.long v8), .second, .val (.int v9), .val (.int v10), .val (.int v11), .val (.int v12), .val (.int v13), .val (.int v14), .val (.ref b110), .val (.ref b124), .val (.long v20), .second, .val (.long v21), .second, .val (.int v23), .val (.int v25), .val (.int v27), .val (.int v29), .val (.int v31), .val (.int v36), .val (.int v38)] [(.int v31)])) t := by
                          intro t kt
                          show Steps p.tables e below (T177.setTop (mkF m 344 #[.val (.int p0), .val (.int p1), .val (.int p2), .val (.int p3), .val (.long q4), .second, .val (.long q5), .second, .val (.int v1), .val (.long v8), .second, .val (.int v9), .val (.int v10), .val (.int v11), .val (.int v12), .val (.int v13), .val (.int v14), .val (.ref b110), .val (.ref b124), .val (.long v20), .second, .val (.long v21), .second, .val (.int v23), .val (.int v25), .val (.int v27), .val (.int v29), .val (.int v31), .val (.int v36), .val (.int v38)] [(.int v31)])) _
                          refine XS.ifNo X177.here hx rfl (hb hby at_344) rfl ((if0 _ _).trans (feq hc344_43).1) ?_
                          show Steps p.tables e below (T177.setTop (mkF m 347 #[.val (.int p0), .val (.int p1), .val (.int p2), .val (.int p3), .val (.long q4), .second, .val (.long q5), .second, .val (.int v1), .val (.long v8), .second, .val (.int v9), .val (.int v10), .val (.int v11), .val (.int v12), .val (.int v13), .val (.int v14), .val (.ref b110), .val (.ref b124), .val (.long v20), .second, .val (.long v21), .second, .val (.int v23), .val (.int v25), .val (.int v27), .val (.int v29), .val (.int v31), .val (.int v36), .val (.int v38)] [])) _
                          refine XS.iload X177.here hx rfl (hb hby at_347) rfl ?_
                          show Steps p.tables e below (T177.setTop (mkF m 349 #[.val (.int p0), .val (.int p1), .val (.int p2), .val (.int p3), .val (.long q4), .second, .val (.long q5), .second, .val (.int v1), .val (.long v8), .second, .val (.int v9), .val (.int v10), .val (.int v11), .val (.int v12), .val (.int v13), .val (.int v14), .val (.ref b110), .val (.ref b124), .val (.long v20), .second, .val (.long v21), .second, .val (.int v23), .val (.int v25), .val (.int v27), .val (.int v29), .val (.int v31), .val (.int v36), .val (.int v38)] [(.int v36)])) _
                          refine st188 _ ?_
                          exact kt
                        refine own_arm hgo189 ?_
                        exact own_armEnd X188 N188 e188 (by rw [hv48.trans (if_neg hc344_43)]))
                    have hgo191 : ∀ t, Steps p.tables e below (T190.setTop (mkF m 362 #[.val (.int p0), .val (.int p1), .val (.int p2), .val (.int p3), .val (.long q4), .second, .val (.long q5), .second, .val (.int v1), .val (.long v8), .second, .val (.int v9), .val (.int v10), .val (.int v11), .val (.int v12), .val (.int v13), .val (.int v14), .val (.ref b110), .val (.ref b124), .val (.long v20), .second, .val (.long v21), .second, .val (.int v23), .val (.int v25), .val (.int v27), .val (.int v29), .val (.int v31), .val (.int v36), .val (.int v38)] [(.int v48)])) t → Steps p.tables e below (T177.setTop (mkF m 339 #[.val (.int p0), .val (.int p1), .val (.int p2), .val (.int p3), .val (.long q4), .second, .val (.long q5), .second, .val (.int v1), .val (.long v8), .second, .val (.int v9), .val (.int v10), .val (.int v11), .val (.int v12), .val (.int v13), .val (.int v14), .val (.ref b110), .val (.ref b124), .val (.long v20), .second, .val (.long v21), .second, .val (.int v23), .val (.int v25), .val (.int v27), .val (.int v29), .val (.int v31), .val (.int v36), .val (.int v38)] [(.int v29)])) t := by
                      intro t kt
                      show Steps p.tables e below (T177.setTop (mkF m 339 #[.val (.int p0), .val (.int p1), .val (.int p2), .val (.int p3), .val (.long q4), .second, .val (.long q5), .second, .val (.int v1), .val (.long v8), .second, .val (.int v9), .val (.int v10), .val (.int v11), .val (.int v12), .val (.int v13), .val (.int v14), .val (.ref b110), .val (.ref b124), .val (.long v20), .second, .val (.long v21), .second, .val (.int v23), .val (.int v25), .val (.int v27), .val (.int v29), .val (.int v31), .val (.int v36), .val (.int v38)] [(.int v29)])) _
                      refine XS.ifNo X177.here hx rfl (hb hby at_339) rfl ((if0 _ _).trans (feq hc339_42).1) ?_
                      show Steps p.tables e below (T177.setTop (mkF m 342 #[.val (.int p0), .val (.int p1), .val (.int p2), .val (.int p3), .val (.long q4), .second, .val (.long q5), .second, .val (.int v1), .val (.long v8), .second, .val (.int v9), .val (.int v10), .val (.int v11), .val (.int v12), .val (.int v13), .val (.int v14), .val (.ref b110), .val (.ref b124), .val (.long v20), .second, .val (.long v21), .second, .val (.int v23), .val (.int v25), .val (.int v27), .val (.int v29), .val (.int v31), .val (.int v36), .val (.int v38)] [])) _
                      refine XS.iload X177.here hx rfl (hb hby at_342) rfl ?_
                      show Steps p.tables e below (T177.setTop (mkF m 344 #[.val (.int p0), .val (.int p1), .val (.int p2), .val (.int p3), .val (.long q4), .second, .val (.long q5), .second, .val (.int v1), .val (.long v8), .second, .val (.int v9), .val (.int v10), .val (.int v11), .val (.int v12), .val (.int v13), .val (.int v14), .val (.ref b110), .val (.ref b124), .val (.long v20), .second, .val (.long v21), .second, .val (.int v23), .val (.int v25), .val (.int v27), .val (.int v29), .val (.int v31), .val (.int v36), .val (.int v38)] [(.int v31)])) _
                      refine st190 _ ?_
                      exact kt
                    refine own_arm hgo191 ?_
                    exact own_armEnd X190 N190 e190 (by rw [hv49.trans (if_neg hc339_42)]))
                have hgo193 : ∀ t, Steps p.tables e below (T192.setTop (mkF m 362 #[.val (.int p0), .val (.int p1), .val (.int p2), .val (.int p3), .val (.long q4), .second, .val (.long q5), .second, .val (.int v1), .val (.long v8), .second, .val (.int v9), .val (.int v10), .val (.int v11), .val (.int v12), .val (.int v13), .val (.int v14), .val (.ref b110), .val (.ref b124), .val (.long v20), .second, .val (.long v21), .second, .val (.int v23), .val (.int v25), .val (.int v27), .val (.int v29), .val (.int v31), .val (.int v36), .val (.int v38)] [(.int v49)])) t → Steps p.tables e below (T177.setTop (mkF m 334 #[.val (.int p0), .val (.int p1), .val (.int p2), .val (.int p3), .val (.long q4), .second, .val (.long q5), .second, .val (.int v1), .val (.long v8), .second, .val (.int v9), .val (.int v10), .val (.int v11), .val (.int v12), .val (.int v13), .val (.int v14), .val (.ref b110), .val (.ref b124), .val (.long v20), .second, .val (.long v21), .second, .val (.int v23), .val (.int v25), .val (.int v27), .val (.int v29), .val (.int v31), .val (.int v36), .val (.int v38)] [(.int v27)])) t := by
                  intro t kt
                  show Steps p.tables e below (T177.setTop (mkF m 334 #[.val (.int p0), .val (.int p1), .val (.int p2), .val (.int p3), .val (.long q4), .second, .val (.long q5), .second, .val (.int v1), .val (.long v8), .second, .val (.int v9), .val (.int v10), .val (.int v11), .val (.int v12), .val (.int v13), .val (.int v14), .val (.ref b110), .val (.ref b124), .val (.long v20), .second, .val (.long v21), .second, .val (.int v23), .val (.int v25), .val (.int v27), .val (.int v29), .val (.int v31), .val (.int v36), .val (.int v38)] [(.int v27)])) _
                  refine XS.ifNo X177.here hx rfl (hb hby at_334) rfl ((if0 _ _).trans (feq hc334_41).1) ?_
                  show Steps p.tables e below (T177.setTop (mkF m 337 #[.val (.int p0), .val (.int p1), .val (.int p2), .val (.int p3), .val (.long q4), .second, .val (.long q5), .second, .val (.int v1), .val (.long v8), .second, .val (.int v9), .val (.int v10), .val (.int v11), .val (.int v12), .val (.int v13), .val (.int v14), .val (.ref b110), .val (.ref b124), .val (.long v20), .second, .val (.long v21), .second, .val (.int v23), .val (.int v25), .val (.int v27), .val (.int v29), .val (.int v31), .val (.int v36), .val (.int v38)] [])) _
                  refine XS.iload X177.here hx rfl (hb hby at_337) rfl ?_
                  show Steps p.tables e below (T177.setTop (mkF m 339 #[.val (.int p0), .val (.int p1), .val (.int p2), .val (.int p3), .val (.long q4), .second, .val (.long q5), .second, .val (.int v1), .val (.long v8), .second, .val (.int v9), .val (.int v10), .val (.int v11), .val (.int v12), .val (.int v13), .val (.int v14), .val (.ref b110), .val (.ref b124), .val (.long v20), .second, .val (.long v21), .second, .val (.int v23), .val (.int v25), .val (.int v27), .val (.int v29), .val (.int v31), .val (.int v36), .val (.int v38)] [(.int v29)])) _
                  refine st192 _ ?_
                  exact kt
                refine own_arm hgo193 ?_
                exact own_armEnd X192 N192 e192 (by rw [hv50.trans (if_neg hc334_41)]))
            have hgo195 : ∀ t, Steps p.tables e below (T194.setTop (mkF m 362 #[.val (.int p0), .val (.int p1), .val (.int p2), .val (.int p3), .val (.long q4), .second, .val (.long q5), .second, .val (.int v1), .val (.long v8), .second, .val (.int v9), .val (.int v10), .val (.int v11), .val (.int v12), .val (.int v13), .val (.int v14), .val (.ref b110), .val (.ref b124), .val (.long v20), .second, .val (.long v21), .second, .val (.int v23), .val (.int v25), .val (.int v27), .val (.int v29), .val (.int v31), .val (.int v36), .val (.int v38)] [(.int v50)])) t → Steps p.tables e below (T177.setTop (mkF m 329 #[.val (.int p0), .val (.int p1), .val (.int p2), .val (.int p3), .val (.long q4), .second, .val (.long q5), .second, .val (.int v1), .val (.long v8), .second, .val (.int v9), .val (.int v10), .val (.int v11), .val (.int v12), .val (.int v13), .val (.int v14), .val (.ref b110), .val (.ref b124), .val (.long v20), .second, .val (.long v21), .second, .val (.int v23), .val (.int v25), .val (.int v27), .val (.int v29), .val (.int v31), .val (.int v36), .val (.int v38)] [(.int v25)])) t := by
              intro t kt
              show Steps p.tables e below (T177.setTop (mkF m 329 #[.val (.int p0), .val (.int p1), .val (.int p2), .val (.int p3), .val (.long q4), .second, .val (.long q5), .second, .val (.int v1), .val (.long v8), .second, .val (.int v9), .val (.int v10), .val (.int v11), .val (.int v12), .val (.int v13), .val (.int v14), .val (.ref b110), .val (.ref b124), .val (.long v20), .second, .val (.long v21), .second, .val (.int v23), .val (.int v25), .val (.int v27), .val (.int v29), .val (.int v31), .val (.int v36), .val (.int v38)] [(.int v25)])) _
              refine XS.ifNo X177.here hx rfl (hb hby at_329) rfl ((if0 _ _).trans (feq hc329_40).1) ?_
              show Steps p.tables e below (T177.setTop (mkF m 332 #[.val (.int p0), .val (.int p1), .val (.int p2), .val (.int p3), .val (.long q4), .second, .val (.long q5), .second, .val (.int v1), .val (.long v8), .second, .val (.int v9), .val (.int v10), .val (.int v11), .val (.int v12), .val (.int v13), .val (.int v14), .val (.ref b110), .val (.ref b124), .val (.long v20), .second, .val (.long v21), .second, .val (.int v23), .val (.int v25), .val (.int v27), .val (.int v29), .val (.int v31), .val (.int v36), .val (.int v38)] [])) _
              refine XS.iload X177.here hx rfl (hb hby at_332) rfl ?_
              show Steps p.tables e below (T177.setTop (mkF m 334 #[.val (.int p0), .val (.int p1), .val (.int p2), .val (.int p3), .val (.long q4), .second, .val (.long q5), .second, .val (.int v1), .val (.long v8), .second, .val (.int v9), .val (.int v10), .val (.int v11), .val (.int v12), .val (.int v13), .val (.int v14), .val (.ref b110), .val (.ref b124), .val (.long v20), .second, .val (.long v21), .second, .val (.int v23), .val (.int v25), .val (.int v27), .val (.int v29), .val (.int v31), .val (.int v36), .val (.int v38)] [(.int v27)])) _
              refine st194 _ ?_
              exact kt
            refine own_arm hgo195 ?_
            exact own_armEnd X194 N194 e194 (by rw [hv51.trans (if_neg hc329_40)]))
        have hgo197 : ∀ t, Steps p.tables e below (T196.setTop (mkF m 362 #[.val (.int p0), .val (.int p1), .val (.int p2), .val (.int p3), .val (.long q4), .second, .val (.long q5), .second, .val (.int v1), .val (.long v8), .second, .val (.int v9), .val (.int v10), .val (.int v11), .val (.int v12), .val (.int v13), .val (.int v14), .val (.ref b110), .val (.ref b124), .val (.long v20), .second, .val (.long v21), .second, .val (.int v23), .val (.int v25), .val (.int v27), .val (.int v29), .val (.int v31), .val (.int v36), .val (.int v38)] [(.int v51)])) t → Steps p.tables e below (T177.setTop (mkF m 324 #[.val (.int p0), .val (.int p1), .val (.int p2), .val (.int p3), .val (.long q4), .second, .val (.long q5), .second, .val (.int v1), .val (.long v8), .second, .val (.int v9), .val (.int v10), .val (.int v11), .val (.int v12), .val (.int v13), .val (.int v14), .val (.ref b110), .val (.ref b124), .val (.long v20), .second, .val (.long v21), .second, .val (.int v23), .val (.int v25), .val (.int v27), .val (.int v29), .val (.int v31), .val (.int v36), .val (.int v38)] [(.int v23)])) t := by
          intro t kt
          show Steps p.tables e below (T177.setTop (mkF m 324 #[.val (.int p0), .val (.int p1), .val (.int p2), .val (.int p3), .val (.long q4), .second, .val (.long q5), .second, .val (.int v1), .val (.long v8), .second, .val (.int v9), .val (.int v10), .val (.int v11), .val (.int v12), .val (.int v13), .val (.int v14), .val (.ref b110), .val (.ref b124), .val (.long v20), .second, .val (.long v21), .second, .val (.int v23), .val (.int v25), .val (.int v27), .val (.int v29), .val (.int v31), .val (.int v36), .val (.int v38)] [(.int v23)])) _
          refine XS.ifNo X177.here hx rfl (hb hby at_324) rfl ((if0 _ _).trans (feq hc324_39).1) ?_
          show Steps p.tables e below (T177.setTop (mkF m 327 #[.val (.int p0), .val (.int p1), .val (.int p2), .val (.int p3), .val (.long q4), .second, .val (.long q5), .second, .val (.int v1), .val (.long v8), .second, .val (.int v9), .val (.int v10), .val (.int v11), .val (.int v12), .val (.int v13), .val (.int v14), .val (.ref b110), .val (.ref b124), .val (.long v20), .second, .val (.long v21), .second, .val (.int v23), .val (.int v25), .val (.int v27), .val (.int v29), .val (.int v31), .val (.int v36), .val (.int v38)] [])) _
          refine XS.iload X177.here hx rfl (hb hby at_327) rfl ?_
          show Steps p.tables e below (T177.setTop (mkF m 329 #[.val (.int p0), .val (.int p1), .val (.int p2), .val (.int p3), .val (.long q4), .second, .val (.long q5), .second, .val (.int v1), .val (.long v8), .second, .val (.int v9), .val (.int v10), .val (.int v11), .val (.int v12), .val (.int v13), .val (.int v14), .val (.ref b110), .val (.ref b124), .val (.long v20), .second, .val (.long v21), .second, .val (.int v23), .val (.int v25), .val (.int v27), .val (.int v29), .val (.int v31), .val (.int v36), .val (.int v38)] [(.int v25)])) _
          refine st196 _ ?_
          exact kt
        refine own_arm hgo197 ?_
        exact own_armEnd X196 N196 e196 (by rw [hv52.trans (if_neg hc324_39)]))
    have hgo199 : ∀ t, Steps p.tables e below (T198.setTop (mkF m 362 #[.val (.int p0), .val (.int p1), .val (.int p2), .val (.int p3), .val (.long q4), .second, .val (.long q5), .second, .val (.int v1), .val (.long v8), .second, .val (.int v9), .val (.int v10), .val (.int v11), .val (.int v12), .val (.int v13), .val (.int v14), .val (.ref b110), .val (.ref b124), .val (.long v20), .second, .val (.long v21), .second, .val (.int v23), .val (.int v25), .val (.int v27), .val (.int v29), .val (.int v31), .val (.int v36), .val (.int v38)] [(.int v52)])) t → Steps p.tables e below (s₁.setTop (mkF m 14 #[.val (.int p0), .val (.int p1), .val (.int p2), .val (.int p3), .val (.long q4), .second, .val (.long q5), .second, .val (.int v1), .unset, .unset, .unset, .unset, .unset, .unset, .unset, .unset, .unset, .unset, .unset, .unset, .unset, .unset, .unset, .unset, .unset, .unset, .unset, .unset, .unset] [(.int (1 : Int32)), (.int v1)])) t := by
      intro t kt
      show Steps p.tables e below (s₁.setTop (mkF m 14 #[.val (.int p0), .val (.int p1), .val (.int p2), .val (.int p3), .val (.long q4), .second, .val (.long q5), .second, .val (.int v1), .unset, .unset, .unset, .unset, .unset, .unset, .unset, .unset, .unset, .unset, .unset, .unset, .unset, .unset, .unset, .unset, .unset, .unset, .unset, .unset, .unset] [(.int (1 : Int32)), (.int v1)])) _
      refine XS.icmpNo X0.here hx rfl (hb hby at_14) rfl (teq hc14_2).2 ?_
      show Steps p.tables e below (s₁.setTop (mkF m 17 #[.val (.int p0), .val (.int p1), .val (.int p2), .val (.int p3), .val (.long q4), .second, .val (.long q5), .second, .val (.int v1), .unset, .unset, .unset, .unset, .unset, .unset, .unset, .unset, .unset, .unset, .unset, .unset, .unset, .unset, .unset, .unset, .unset, .unset, .unset, .unset, .unset] [])) _
      refine XS.iconst X0.here hx rfl (hb hby at_17) ?_
      show Steps p.tables e below (s₁.setTop (mkF m 18 #[.val (.int p0), .val (.int p1), .val (.int p2), .val (.int p3), .val (.long q4), .second, .val (.long q5), .second, .val (.int v1), .unset, .unset, .unset, .unset, .unset, .unset, .unset, .unset, .unset, .unset, .unset, .unset, .unset, .unset, .unset, .unset, .unset, .unset, .unset, .unset, .unset] [(.int (1 : Int32))])) _
      refine XS.iloadN X0.here hx rfl (hb hby at_18) rfl ?_
      show Steps p.tables e below (s₁.setTop (mkF m 19 #[.val (.int p0), .val (.int p1), .val (.int p2), .val (.int p3), .val (.long q4), .second, .val (.long q5), .second, .val (.int v1), .unset, .unset, .unset, .unset, .unset, .unset, .unset, .unset, .unset, .unset, .unset, .unset, .unset, .unset, .unset, .unset, .unset, .unset, .unset, .unset, .unset] [(.int p1), (.int (1 : Int32))])) _
      refine XS.iconst X0.here hx rfl (hb hby at_19) ?_
      show Steps p.tables e below (s₁.setTop (mkF m 20 #[.val (.int p0), .val (.int p1), .val (.int p2), .val (.int p3), .val (.long q4), .second, .val (.long q5), .second, .val (.int v1), .unset, .unset, .unset, .unset, .unset, .unset, .unset, .unset, .unset, .unset, .unset, .unset, .unset, .unset, .unset, .unset, .unset, .unset, .unset, .unset, .unset] [(.int (1 : Int32)), (.int p1), (.int (1 : Int32))])) _
      refine XS.iand X0.here hx rfl (hb hby at_20) rfl ?_
      show Steps p.tables e below (s₁.setTop (mkF m 21 #[.val (.int p0), .val (.int p1), .val (.int p2), .val (.int p3), .val (.long q4), .second, .val (.long q5), .second, .val (.int v1), .unset, .unset, .unset, .unset, .unset, .unset, .unset, .unset, .unset, .unset, .unset, .unset, .unset, .unset, .unset, .unset, .unset, .unset, .unset, .unset, .unset] [(.int (p1 &&& (1 : Int32))), (.int (1 : Int32))])) _
      refine XS.iadd X0.here hx rfl (hb hby at_21) rfl ?_
      show Steps p.tables e below (s₁.setTop (mkF m 22 #[.val (.int p0), .val (.int p1), .val (.int p2), .val (.int p3), .val (.long q4), .second, .val (.long q5), .second, .val (.int v1), .unset, .unset, .unset, .unset, .unset, .unset, .unset, .unset, .unset, .unset, .unset, .unset, .unset, .unset, .unset, .unset, .unset, .unset, .unset, .unset, .unset] [(.int ((1 : Int32) + (p1 &&& (1 : Int32))))])) _
      refine XS.i2l X0.here hx rfl (hb hby at_22) rfl ?_
      show Steps p.tables e below (s₁.setTop (mkF m 23 #[.val (.int p0), .val (.int p1), .val (.int p2), .val (.int p3), .val (.long q4), .second, .val (.long q5), .second, .val (.int v1), .unset, .unset, .unset, .unset, .unset, .unset, .unset, .unset, .unset, .unset, .unset, .unset, .unset, .unset, .unset, .unset, .unset, .unset, .unset, .unset, .unset] [(.long (((1 : Int32) + (p1 &&& (1 : Int32))).toInt64))])) _
      rw [← hv8]
      show Steps p.tables e below (s₁.setTop (mkF m 23 #[.val (.int p0), .val (.int p1), .val (.int p2), .val (.int p3), .val (.long q4), .second, .val (.long q5), .second, .val (.int v1), .unset, .unset, .unset, .unset, .unset, .unset, .unset, .unset, .unset, .unset, .unset, .unset, .unset, .unset, .unset, .unset, .unset, .unset, .unset, .unset, .unset] [(.long v8)])) _
      refine XS.lstore X0.here hx rfl (hb hby at_23) rfl (l' := #[.val (.int p0), .val (.int p1), .val (.int p2), .val (.int p3), .val (.long q4), .second, .val (.long q5), .second, .val (.int v1), .val (.long v8), .second, .unset, .unset, .unset, .unset, .unset, .unset, .unset, .unset, .unset, .unset, .unset, .unset, .unset, .unset, .unset, .unset, .unset, .unset, .unset]) rfl ?_
      show Steps p.tables e below (s₁.setTop (mkF m 25 #[.val (.int p0), .val (.int p1), .val (.int p2), .val (.int p3), .val (.long q4), .second, .val (.long q5), .second, .val (.int v1), .val (.long v8), .second, .unset, .unset, .unset, .unset, .unset, .unset, .unset, .unset, .unset, .unset, .unset, .unset, .unset, .unset, .unset, .unset, .unset, .unset, .unset] [])) _
      refine XS.goto X0.here hx rfl (pc0 := 25) (pc' := 56) rfl (hb hby at_25) (by decide) (by decide) ?_
      show Steps p.tables e below (s₁.setTop (mkF m 56 #[.val (.int p0), .val (.int p1), .val (.int p2), .val (.int p3), .val (.long q4), .second, .val (.long q5), .second, .val (.int v1), .val (.long v8), .second, .unset, .unset, .unset, .unset, .unset, .unset, .unset, .unset, .unset, .unset, .unset, .unset, .unset, .unset, .unset, .unset, .unset, .unset, .unset] [])) _
      refine XS.lload X0.here hx rfl (hb hby at_56) rfl ?_
      show Steps p.tables e below (s₁.setTop (mkF m 58 #[.val (.int p0), .val (.int p1), .val (.int p2), .val (.int p3), .val (.long q4), .second, .val (.long q5), .second, .val (.int v1), .val (.long v8), .second, .unset, .unset, .unset, .unset, .unset, .unset, .unset, .unset, .unset, .unset, .unset, .unset, .unset, .unset, .unset, .unset, .unset, .unset, .unset] [(.long v8)])) _
      refine XS.l2i X0.here hx rfl (hb hby at_58) rfl ?_
      show Steps p.tables e below (s₁.setTop (mkF m 59 #[.val (.int p0), .val (.int p1), .val (.int p2), .val (.int p3), .val (.long q4), .second, .val (.long q5), .second, .val (.int v1), .val (.long v8), .second, .unset, .unset, .unset, .unset, .unset, .unset, .unset, .unset, .unset, .unset, .unset, .unset, .unset, .unset, .unset, .unset, .unset, .unset, .unset] [(.int (v8.toInt32))])) _
      rw [← hv9]
      show Steps p.tables e below (s₁.setTop (mkF m 59 #[.val (.int p0), .val (.int p1), .val (.int p2), .val (.int p3), .val (.long q4), .second, .val (.long q5), .second, .val (.int v1), .val (.long v8), .second, .unset, .unset, .unset, .unset, .unset, .unset, .unset, .unset, .unset, .unset, .unset, .unset, .unset, .unset, .unset, .unset, .unset, .unset, .unset] [(.int v9)])) _
      refine XS.istore X0.here hx rfl (hb hby at_59) rfl (l' := #[.val (.int p0), .val (.int p1), .val (.int p2), .val (.int p3), .val (.long q4), .second, .val (.long q5), .second, .val (.int v1), .val (.long v8), .second, .val (.int v9), .unset, .unset, .unset, .unset, .unset, .unset, .unset, .unset, .unset, .unset, .unset, .unset, .unset, .unset, .unset, .unset, .unset, .unset]) rfl ?_
      show Steps p.tables e below (s₁.setTop (mkF m 61 #[.val (.int p0), .val (.int p1), .val (.int p2), .val (.int p3), .val (.long q4), .second, .val (.long q5), .second, .val (.int v1), .val (.long v8), .second, .val (.int v9), .unset, .unset, .unset, .unset, .unset, .unset, .unset, .unset, .unset, .unset, .unset, .unset, .unset, .unset, .unset, .unset, .unset, .unset] [])) _
      refine XS.bipush X0.here hx rfl (hb hby at_61) ?_
      show Steps p.tables e below (s₁.setTop (mkF m 63 #[.val (.int p0), .val (.int p1), .val (.int p2), .val (.int p3), .val (.long q4), .second, .val (.long q5), .second, .val (.int v1), .val (.long v8), .second, .val (.int v9), .unset, .unset, .unset, .unset, .unset, .unset, .unset, .unset, .unset, .unset, .unset, .unset, .unset, .unset, .unset, .unset, .unset, .unset] [(.int (64 : Int32))])) _
      refine XS.iload X0.here hx rfl (hb hby at_63) rfl ?_
      show Steps p.tables e below (s₁.setTop (mkF m 65 #[.val (.int p0), .val (.int p1), .val (.int p2), .val (.int p3), .val (.long q4), .second, .val (.long q5), .second, .val (.int v1), .val (.long v8), .second, .val (.int v9), .unset, .unset, .unset, .unset, .unset, .unset, .unset, .unset, .unset, .unset, .unset, .unset, .unset, .unset, .unset, .unset, .unset, .unset] [(.int v1), (.int (64 : Int32))])) _
      refine XS.idiv X0.here hx rfl (hb hby at_65) rfl hnz65_106 ?_
      show Steps p.tables e below (s₁.setTop (mkF m 66 #[.val (.int p0), .val (.int p1), .val (.int p2), .val (.int p3), .val (.long q4), .second, .val (.long q5), .second, .val (.int v1), .val (.long v8), .second, .val (.int v9), .unset, .unset, .unset, .unset, .unset, .unset, .unset, .unset, .unset, .unset, .unset, .unset, .unset, .unset, .unset, .unset, .unset, .unset] [(.int ((64 : Int32) / v1))])) _
      rw [← hv10]
      show Steps p.tables e below (s₁.setTop (mkF m 66 #[.val (.int p0), .val (.int p1), .val (.int p2), .val (.int p3), .val (.long q4), .second, .val (.long q5), .second, .val (.int v1), .val (.long v8), .second, .val (.int v9), .unset, .unset, .unset, .unset, .unset, .unset, .unset, .unset, .unset, .unset, .unset, .unset, .unset, .unset, .unset, .unset, .unset, .unset] [(.int v10)])) _
      refine XS.istore X0.here hx rfl (hb hby at_66) rfl (l' := #[.val (.int p0), .val (.int p1), .val (.int p2), .val (.int p3), .val (.long q4), .second, .val (.long q5), .second, .val (.int v1), .val (.long v8), .second, .val (.int v9), .val (.int v10), .unset, .unset, .unset, .unset, .unset, .unset, .unset, .unset, .unset, .unset, .unset, .unset, .unset, .unset, .unset, .unset, .unset]) rfl ?_
      show Steps p.tables e below (s₁.setTop (mkF m 68 #[.val (.int p0), .val (.int p1), .val (.int p2), .val (.int p3), .val (.long q4), .second, .val (.long q5), .second, .val (.int v1), .val (.long v8), .second, .val (.int v9), .val (.int v10), .unset, .unset, .unset, .unset, .unset, .unset, .unset, .unset, .unset, .unset, .unset, .unset, .unset, .unset, .unset, .unset, .unset] [])) _
      refine XS.iconst X0.here hx rfl (hb hby at_68) ?_
      show Steps p.tables e below (s₁.setTop (mkF m 69 #[.val (.int p0), .val (.int p1), .val (.int p2), .val (.int p3), .val (.long q4), .second, .val (.long q5), .second, .val (.int v1), .val (.long v8), .second, .val (.int v9), .val (.int v10), .unset, .unset, .unset, .unset, .unset, .unset, .unset, .unset, .unset, .unset, .unset, .unset, .unset, .unset, .unset, .unset, .unset] [(.int (1 : Int32))])) _
      refine XS.iloadN X0.here hx rfl (hb hby at_69) rfl ?_
      show Steps p.tables e below (s₁.setTop (mkF m 70 #[.val (.int p0), .val (.int p1), .val (.int p2), .val (.int p3), .val (.long q4), .second, .val (.long q5), .second, .val (.int v1), .val (.long v8), .second, .val (.int v9), .val (.int v10), .unset, .unset, .unset, .unset, .unset, .unset, .unset, .unset, .unset, .unset, .unset, .unset, .unset, .unset, .unset, .unset, .unset] [(.int p2), (.int (1 : Int32))])) _
      refine XS.bipush X0.here hx rfl (hb hby at_70) ?_
      show Steps p.tables e below (s₁.setTop (mkF m 72 #[.val (.int p0), .val (.int p1), .val (.int p2), .val (.int p3), .val (.long q4), .second, .val (.long q5), .second, .val (.int v1), .val (.long v8), .second, .val (.int v9), .val (.int v10), .unset, .unset, .unset, .unset, .unset, .unset, .unset, .unset, .unset, .unset, .unset, .unset, .unset, .unset, .unset, .unset, .unset] [(.int (63 : Int32)), (.int p2), (.int (1 : Int32))])) _
      refine XS.iand X0.here hx rfl (hb hby at_72) rfl ?_
      show Steps p.tables e below (s₁.setTop (mkF m 73 #[.val (.int p0), .val (.int p1), .val (.int p2), .val (.int p3), .val (.long q4), .second, .val (.long q5), .second, .val (.int v1), .val (.long v8), .second, .val (.int v9), .val (.int v10), .unset, .unset, .unset, .unset, .unset, .unset, .unset, .unset, .unset, .unset, .unset, .unset, .unset, .unset, .unset, .unset, .unset] [(.int (p2 &&& (63 : Int32))), (.int (1 : Int32))])) _
      refine XS.iadd X0.here hx rfl (hb hby at_73) rfl ?_
      show Steps p.tables e below (s₁.setTop (mkF m 74 #[.val (.int p0), .val (.int p1), .val (.int p2), .val (.int p3), .val (.long q4), .second, .val (.long q5), .second, .val (.int v1), .val (.long v8), .second, .val (.int v9), .val (.int v10), .unset, .unset, .unset, .unset, .unset, .unset, .unset, .unset, .unset, .unset, .unset, .unset, .unset, .unset, .unset, .unset, .unset] [(.int ((1 : Int32) + (p2 &&& (63 : Int32))))])) _
      rw [← hv11]
      show Steps p.tables e below (s₁.setTop (mkF m 74 #[.val (.int p0), .val (.int p1), .val (.int p2), .val (.int p3), .val (.long q4), .second, .val (.long q5), .second, .val (.int v1), .val (.long v8), .second, .val (.int v9), .val (.int v10), .unset, .unset, .unset, .unset, .unset, .unset, .unset, .unset, .unset, .unset, .unset, .unset, .unset, .unset, .unset, .unset, .unset] [(.int v11)])) _
      refine XS.istore X0.here hx rfl (hb hby at_74) rfl (l' := #[.val (.int p0), .val (.int p1), .val (.int p2), .val (.int p3), .val (.long q4), .second, .val (.long q5), .second, .val (.int v1), .val (.long v8), .second, .val (.int v9), .val (.int v10), .val (.int v11), .unset, .unset, .unset, .unset, .unset, .unset, .unset, .unset, .unset, .unset, .unset, .unset, .unset, .unset, .unset, .unset]) rfl ?_
      show Steps p.tables e below (s₁.setTop (mkF m 76 #[.val (.int p0), .val (.int p1), .val (.int p2), .val (.int p3), .val (.long q4), .second, .val (.long q5), .second, .val (.int v1), .val (.long v8), .second, .val (.int v9), .val (.int v10), .val (.int v11), .unset, .unset, .unset, .unset, .unset, .unset, .unset, .unset, .unset, .unset, .unset, .unset, .unset, .unset, .unset, .unset] [])) _
      refine XS.iconst X0.here hx rfl (hb hby at_76) ?_
      show Steps p.tables e below (s₁.setTop (mkF m 77 #[.val (.int p0), .val (.int p1), .val (.int p2), .val (.int p3), .val (.long q4), .second, .val (.long q5), .second, .val (.int v1), .val (.long v8), .second, .val (.int v9), .val (.int v10), .val (.int v11), .unset, .unset, .unset, .unset, .unset, .unset, .unset, .unset, .unset, .unset, .unset, .unset, .unset, .unset, .unset, .unset] [(.int (1 : Int32))])) _
      refine XS.iloadN X0.here hx rfl (hb hby at_77) rfl ?_
      show Steps p.tables e below (s₁.setTop (mkF m 78 #[.val (.int p0), .val (.int p1), .val (.int p2), .val (.int p3), .val (.long q4), .second, .val (.long q5), .second, .val (.int v1), .val (.long v8), .second, .val (.int v9), .val (.int v10), .val (.int v11), .unset, .unset, .unset, .unset, .unset, .unset, .unset, .unset, .unset, .unset, .unset, .unset, .unset, .unset, .unset, .unset] [(.int p3), (.int (1 : Int32))])) _
      refine X0.ldcInt hx hown (mvT hZ (hw _ (List.mem_of_getElem? (i := 0) rfl))) (g := (mkF m 78 #[.val (.int p0), .val (.int p1), .val (.int p2), .val (.int p3), .val (.long q4), .second, .val (.long q5), .second, .val (.int v1), .val (.long v8), .second, .val (.int v9), .val (.int v10), .val (.int v11), .unset, .unset, .unset, .unset, .unset, .unset, .unset, .unset, .unset, .unset, .unset, .unset, .unset, .unset, .unset, .unset] [(.int p3), (.int (1 : Int32))])) rfl (hb hby at_78) _ ?_
      show Steps p.tables e below (s₁.setTop (mkF m 80 #[.val (.int p0), .val (.int p1), .val (.int p2), .val (.int p3), .val (.long q4), .second, .val (.long q5), .second, .val (.int v1), .val (.long v8), .second, .val (.int v9), .val (.int v10), .val (.int v11), .unset, .unset, .unset, .unset, .unset, .unset, .unset, .unset, .unset, .unset, .unset, .unset, .unset, .unset, .unset, .unset] [(.int (2147483647 : Int32)), (.int p3), (.int (1 : Int32))])) _
      refine XS.iand X0.here hx rfl (hb hby at_80) rfl ?_
      show Steps p.tables e below (s₁.setTop (mkF m 81 #[.val (.int p0), .val (.int p1), .val (.int p2), .val (.int p3), .val (.long q4), .second, .val (.long q5), .second, .val (.int v1), .val (.long v8), .second, .val (.int v9), .val (.int v10), .val (.int v11), .unset, .unset, .unset, .unset, .unset, .unset, .unset, .unset, .unset, .unset, .unset, .unset, .unset, .unset, .unset, .unset] [(.int (p3 &&& (2147483647 : Int32))), (.int (1 : Int32))])) _
      refine XS.iload X0.here hx rfl (hb hby at_81) rfl ?_
      show Steps p.tables e below (s₁.setTop (mkF m 83 #[.val (.int p0), .val (.int p1), .val (.int p2), .val (.int p3), .val (.long q4), .second, .val (.long q5), .second, .val (.int v1), .val (.long v8), .second, .val (.int v9), .val (.int v10), .val (.int v11), .unset, .unset, .unset, .unset, .unset, .unset, .unset, .unset, .unset, .unset, .unset, .unset, .unset, .unset, .unset, .unset] [(.int v9), (.int (p3 &&& (2147483647 : Int32))), (.int (1 : Int32))])) _
      refine XS.irem X0.here hx rfl (hb hby at_83) rfl hnz83_107 ?_
      rw [own_remI (p3 &&& (2147483647 : Int32)) v9]
      show Steps p.tables e below (s₁.setTop (mkF m 84 #[.val (.int p0), .val (.int p1), .val (.int p2), .val (.int p3), .val (.long q4), .second, .val (.long q5), .second, .val (.int v1), .val (.long v8), .second, .val (.int v9), .val (.int v10), .val (.int v11), .unset, .unset, .unset, .unset, .unset, .unset, .unset, .unset, .unset, .unset, .unset, .unset, .unset, .unset, .unset, .unset] [(.int ((p3 &&& (2147483647 : Int32)) % v9)), (.int (1 : Int32))])) _
      refine XS.iadd X0.here hx rfl (hb hby at_84) rfl ?_
      show Steps p.tables e below (s₁.setTop (mkF m 85 #[.val (.int p0), .val (.int p1), .val (.int p2), .val (.int p3), .val (.long q4), .second, .val (.long q5), .second, .val (.int v1), .val (.long v8), .second, .val (.int v9), .val (.int v10), .val (.int v11), .unset, .unset, .unset, .unset, .unset, .unset, .unset, .unset, .unset, .unset, .unset, .unset, .unset, .unset, .unset, .unset] [(.int ((1 : Int32) + ((p3 &&& (2147483647 : Int32)) % v9)))])) _
      rw [← hv12]
      show Steps p.tables e below (s₁.setTop (mkF m 85 #[.val (.int p0), .val (.int p1), .val (.int p2), .val (.int p3), .val (.long q4), .second, .val (.long q5), .second, .val (.int v1), .val (.long v8), .second, .val (.int v9), .val (.int v10), .val (.int v11), .unset, .unset, .unset, .unset, .unset, .unset, .unset, .unset, .unset, .unset, .unset, .unset, .unset, .unset, .unset, .unset] [(.int v12)])) _
      refine XS.istore X0.here hx rfl (hb hby at_85) rfl (l' := #[.val (.int p0), .val (.int p1), .val (.int p2), .val (.int p3), .val (.long q4), .second, .val (.long q5), .second, .val (.int v1), .val (.long v8), .second, .val (.int v9), .val (.int v10), .val (.int v11), .val (.int v12), .unset, .unset, .unset, .unset, .unset, .unset, .unset, .unset, .unset, .unset, .unset, .unset, .unset, .unset, .unset]) rfl ?_
      show Steps p.tables e below (s₁.setTop (mkF m 87 #[.val (.int p0), .val (.int p1), .val (.int p2), .val (.int p3), .val (.long q4), .second, .val (.long q5), .second, .val (.int v1), .val (.long v8), .second, .val (.int v9), .val (.int v10), .val (.int v11), .val (.int v12), .unset, .unset, .unset, .unset, .unset, .unset, .unset, .unset, .unset, .unset, .unset, .unset, .unset, .unset, .unset] [])) _
      refine XS.iload X0.here hx rfl (hb hby at_87) rfl ?_
      show Steps p.tables e below (s₁.setTop (mkF m 89 #[.val (.int p0), .val (.int p1), .val (.int p2), .val (.int p3), .val (.long q4), .second, .val (.long q5), .second, .val (.int v1), .val (.long v8), .second, .val (.int v9), .val (.int v10), .val (.int v11), .val (.int v12), .unset, .unset, .unset, .unset, .unset, .unset, .unset, .unset, .unset, .unset, .unset, .unset, .unset, .unset, .unset] [(.int v11)])) _
      refine XS.iconst X0.here hx rfl (hb hby at_89) ?_
      show Steps p.tables e below (s₁.setTop (mkF m 90 #[.val (.int p0), .val (.int p1), .val (.int p2), .val (.int p3), .val (.long q4), .second, .val (.long q5), .second, .val (.int v1), .val (.long v8), .second, .val (.int v9), .val (.int v10), .val (.int v11), .val (.int v12), .unset, .unset, .unset, .unset, .unset, .unset, .unset, .unset, .unset, .unset, .unset, .unset, .unset, .unset, .unset] [(.int (1 : Int32)), (.int v11)])) _
      refine XS.isub X0.here hx rfl (hb hby at_90) rfl ?_
      show Steps p.tables e below (s₁.setTop (mkF m 91 #[.val (.int p0), .val (.int p1), .val (.int p2), .val (.int p3), .val (.long q4), .second, .val (.long q5), .second, .val (.int v1), .val (.long v8), .second, .val (.int v9), .val (.int v10), .val (.int v11), .val (.int v12), .unset, .unset, .unset, .unset, .unset, .unset, .unset, .unset, .unset, .unset, .unset, .unset, .unset, .unset, .unset] [(.int (v11 - (1 : Int32)))])) _
      refine XS.iload X0.here hx rfl (hb hby at_91) rfl ?_
      show Steps p.tables e below (s₁.setTop (mkF m 93 #[.val (.int p0), .val (.int p1), .val (.int p2), .val (.int p3), .val (.long q4), .second, .val (.long q5), .second, .val (.int v1), .val (.long v8), .second, .val (.int v9), .val (.int v10), .val (.int v11), .val (.int v12), .unset, .unset, .unset, .unset, .unset, .unset, .unset, .unset, .unset, .unset, .unset, .unset, .unset, .unset, .unset] [(.int v10), (.int (v11 - (1 : Int32)))])) _
      refine XS.idiv X0.here hx rfl (hb hby at_93) rfl hnz93_108 ?_
      show Steps p.tables e below (s₁.setTop (mkF m 94 #[.val (.int p0), .val (.int p1), .val (.int p2), .val (.int p3), .val (.long q4), .second, .val (.long q5), .second, .val (.int v1), .val (.long v8), .second, .val (.int v9), .val (.int v10), .val (.int v11), .val (.int v12), .unset, .unset, .unset, .unset, .unset, .unset, .unset, .unset, .unset, .unset, .unset, .unset, .unset, .unset, .unset] [(.int ((v11 - (1 : Int32)) / v10))])) _
      rw [← hv13]
      show Steps p.tables e below (s₁.setTop (mkF m 94 #[.val (.int p0), .val (.int p1), .val (.int p2), .val (.int p3), .val (.long q4), .second, .val (.long q5), .second, .val (.int v1), .val (.long v8), .second, .val (.int v9), .val (.int v10), .val (.int v11), .val (.int v12), .unset, .unset, .unset, .unset, .unset, .unset, .unset, .unset, .unset, .unset, .unset, .unset, .unset, .unset, .unset] [(.int v13)])) _
      refine XS.istore X0.here hx rfl (hb hby at_94) rfl (l' := #[.val (.int p0), .val (.int p1), .val (.int p2), .val (.int p3), .val (.long q4), .second, .val (.long q5), .second, .val (.int v1), .val (.long v8), .second, .val (.int v9), .val (.int v10), .val (.int v11), .val (.int v12), .val (.int v13), .unset, .unset, .unset, .unset, .unset, .unset, .unset, .unset, .unset, .unset, .unset, .unset, .unset, .unset]) rfl ?_
      show Steps p.tables e below (s₁.setTop (mkF m 96 #[.val (.int p0), .val (.int p1), .val (.int p2), .val (.int p3), .val (.long q4), .second, .val (.long q5), .second, .val (.int v1), .val (.long v8), .second, .val (.int v9), .val (.int v10), .val (.int v11), .val (.int v12), .val (.int v13), .unset, .unset, .unset, .unset, .unset, .unset, .unset, .unset, .unset, .unset, .unset, .unset, .unset, .unset] [])) _
      refine XS.iload X0.here hx rfl (hb hby at_96) rfl ?_
      show Steps p.tables e below (s₁.setTop (mkF m 98 #[.val (.int p0), .val (.int p1), .val (.int p2), .val (.int p3), .val (.long q4), .second, .val (.long q5), .second, .val (.int v1), .val (.long v8), .second, .val (.int v9), .val (.int v10), .val (.int v11), .val (.int v12), .val (.int v13), .unset, .unset, .unset, .unset, .unset, .unset, .unset, .unset, .unset, .unset, .unset, .unset, .unset, .unset] [(.int v11)])) _
      refine XS.iconst X0.here hx rfl (hb hby at_98) ?_
      show Steps p.tables e below (s₁.setTop (mkF m 99 #[.val (.int p0), .val (.int p1), .val (.int p2), .val (.int p3), .val (.long q4), .second, .val (.long q5), .second, .val (.int v1), .val (.long v8), .second, .val (.int v9), .val (.int v10), .val (.int v11), .val (.int v12), .val (.int v13), .unset, .unset, .unset, .unset, .unset, .unset, .unset, .unset, .unset, .unset, .unset, .unset, .unset, .unset] [(.int (1 : Int32)), (.int v11)])) _
      refine XS.isub X0.here hx rfl (hb hby at_99) rfl ?_
      show Steps p.tables e below (s₁.setTop (mkF m 100 #[.val (.int p0), .val (.int p1), .val (.int p2), .val (.int p3), .val (.long q4), .second, .val (.long q5), .second, .val (.int v1), .val (.long v8), .second, .val (.int v9), .val (.int v10), .val (.int v11), .val (.int v12), .val (.int v13), .unset, .unset, .unset, .unset, .unset, .unset, .unset, .unset, .unset, .unset, .unset, .unset, .unset, .unset] [(.int (v11 - (1 : Int32)))])) _
      refine XS.iload X0.here hx rfl (hb hby at_100) rfl ?_
      show Steps p.tables e below (s₁.setTop (mkF m 102 #[.val (.int p0), .val (.int p1), .val (.int p2), .val (.int p3), .val (.long q4), .second, .val (.long q5), .second, .val (.int v1), .val (.long v8), .second, .val (.int v9), .val (.int v10), .val (.int v11), .val (.int v12), .val (.int v13), .unset, .unset, .unset, .unset, .unset, .unset, .unset, .unset, .unset, .unset, .unset, .unset, .unset, .unset] [(.int v10), (.int (v11 - (1 : Int32)))])) _
      refine XS.irem X0.here hx rfl (hb hby at_102) rfl hnz102_109 ?_
      rw [own_remI (v11 - (1 : Int32)) v10]
      show Steps p.tables e below (s₁.setTop (mkF m 103 #[.val (.int p0), .val (.int p1), .val (.int p2), .val (.int p3), .val (.long q4), .second, .val (.long q5), .second, .val (.int v1), .val (.long v8), .second, .val (.int v9), .val (.int v10), .val (.int v11), .val (.int v12), .val (.int v13), .unset, .unset, .unset, .unset, .unset, .unset, .unset, .unset, .unset, .unset, .unset, .unset, .unset, .unset] [(.int ((v11 - (1 : Int32)) % v10))])) _
      refine XS.iload X0.here hx rfl (hb hby at_103) rfl ?_
      show Steps p.tables e below (s₁.setTop (mkF m 105 #[.val (.int p0), .val (.int p1), .val (.int p2), .val (.int p3), .val (.long q4), .second, .val (.long q5), .second, .val (.int v1), .val (.long v8), .second, .val (.int v9), .val (.int v10), .val (.int v11), .val (.int v12), .val (.int v13), .unset, .unset, .unset, .unset, .unset, .unset, .unset, .unset, .unset, .unset, .unset, .unset, .unset, .unset] [(.int v1), (.int ((v11 - (1 : Int32)) % v10))])) _
      refine XS.imul X0.here hx rfl (hb hby at_105) rfl ?_
      show Steps p.tables e below (s₁.setTop (mkF m 106 #[.val (.int p0), .val (.int p1), .val (.int p2), .val (.int p3), .val (.long q4), .second, .val (.long q5), .second, .val (.int v1), .val (.long v8), .second, .val (.int v9), .val (.int v10), .val (.int v11), .val (.int v12), .val (.int v13), .unset, .unset, .unset, .unset, .unset, .unset, .unset, .unset, .unset, .unset, .unset, .unset, .unset, .unset] [(.int (((v11 - (1 : Int32)) % v10) * v1))])) _
      rw [← hv14]
      show Steps p.tables e below (s₁.setTop (mkF m 106 #[.val (.int p0), .val (.int p1), .val (.int p2), .val (.int p3), .val (.long q4), .second, .val (.long q5), .second, .val (.int v1), .val (.long v8), .second, .val (.int v9), .val (.int v10), .val (.int v11), .val (.int v12), .val (.int v13), .unset, .unset, .unset, .unset, .unset, .unset, .unset, .unset, .unset, .unset, .unset, .unset, .unset, .unset] [(.int v14)])) _
      refine XS.istore X0.here hx rfl (hb hby at_106) rfl (l' := #[.val (.int p0), .val (.int p1), .val (.int p2), .val (.int p3), .val (.long q4), .second, .val (.long q5), .second, .val (.int v1), .val (.long v8), .second, .val (.int v9), .val (.int v10), .val (.int v11), .val (.int v12), .val (.int v13), .val (.int v14), .unset, .unset, .unset, .unset, .unset, .unset, .unset, .unset, .unset, .unset, .unset, .unset, .unset]) rfl ?_
      show Steps p.tables e below (s₁.setTop (mkF m 108 #[.val (.int p0), .val (.int p1), .val (.int p2), .val (.int p3), .val (.long q4), .second, .val (.long q5), .second, .val (.int v1), .val (.long v8), .second, .val (.int v9), .val (.int v10), .val (.int v11), .val (.int v12), .val (.int v13), .val (.int v14), .unset, .unset, .unset, .unset, .unset, .unset, .unset, .unset, .unset, .unset, .unset, .unset, .unset] [])) _
      refine XS.bipush X0.here hx rfl (hb hby at_108) ?_
      show Steps p.tables e below (s₁.setTop (mkF m 110 #[.val (.int p0), .val (.int p1), .val (.int p2), .val (.int p3), .val (.long q4), .second, .val (.long q5), .second, .val (.int v1), .val (.long v8), .second, .val (.int v9), .val (.int v10), .val (.int v11), .val (.int v12), .val (.int v13), .val (.int v14), .unset, .unset, .unset, .unset, .unset, .unset, .unset, .unset, .unset, .unset, .unset, .unset, .unset] [(.int (64 : Int32))])) _
      refine st110 _ ?_
      show Steps p.tables e below (T110.setTop (mkF m 112 #[.val (.int p0), .val (.int p1), .val (.int p2), .val (.int p3), .val (.long q4), .second, .val (.long q5), .second, .val (.int v1), .val (.long v8), .second, .val (.int v9), .val (.int v10), .val (.int v11), .val (.int v12), .val (.int v13), .val (.int v14), .unset, .unset, .unset, .unset, .unset, .unset, .unset, .unset, .unset, .unset, .unset, .unset, .unset] [(.ref b110)])) _
      refine XS.astore X110.here hx rfl (hb hby at_112) rfl rfl (l' := #[.val (.int p0), .val (.int p1), .val (.int p2), .val (.int p3), .val (.long q4), .second, .val (.long q5), .second, .val (.int v1), .val (.long v8), .second, .val (.int v9), .val (.int v10), .val (.int v11), .val (.int v12), .val (.int v13), .val (.int v14), .val (.ref b110), .unset, .unset, .unset, .unset, .unset, .unset, .unset, .unset, .unset, .unset, .unset, .unset]) rfl ?_
      show Steps p.tables e below (T110.setTop (mkF m 114 #[.val (.int p0), .val (.int p1), .val (.int p2), .val (.int p3), .val (.long q4), .second, .val (.long q5), .second, .val (.int v1), .val (.long v8), .second, .val (.int v9), .val (.int v10), .val (.int v11), .val (.int v12), .val (.int v13), .val (.int v14), .val (.ref b110), .unset, .unset, .unset, .unset, .unset, .unset, .unset, .unset, .unset, .unset, .unset, .unset] [])) _
      refine XS.aload X110.here hx rfl (hb hby at_114) rfl rfl ?_
      show Steps p.tables e below (T110.setTop (mkF m 116 #[.val (.int p0), .val (.int p1), .val (.int p2), .val (.int p3), .val (.long q4), .second, .val (.long q5), .second, .val (.int v1), .val (.long v8), .second, .val (.int v9), .val (.int v10), .val (.int v11), .val (.int v12), .val (.int v13), .val (.int v14), .val (.ref b110), .unset, .unset, .unset, .unset, .unset, .unset, .unset, .unset, .unset, .unset, .unset, .unset] [(.ref b110)])) _
      refine XS.iload X110.here hx rfl (hb hby at_116) rfl ?_
      show Steps p.tables e below (T110.setTop (mkF m 118 #[.val (.int p0), .val (.int p1), .val (.int p2), .val (.int p3), .val (.long q4), .second, .val (.long q5), .second, .val (.int v1), .val (.long v8), .second, .val (.int v9), .val (.int v10), .val (.int v11), .val (.int v12), .val (.int v13), .val (.int v14), .val (.ref b110), .unset, .unset, .unset, .unset, .unset, .unset, .unset, .unset, .unset, .unset, .unset, .unset] [(.int v13), (.ref b110)])) _
      refine XS.lload X110.here hx rfl (hb hby at_118) rfl ?_
      show Steps p.tables e below (T110.setTop (mkF m 120 #[.val (.int p0), .val (.int p1), .val (.int p2), .val (.int p3), .val (.long q4), .second, .val (.long q5), .second, .val (.int v1), .val (.long v8), .second, .val (.int v9), .val (.int v10), .val (.int v11), .val (.int v12), .val (.int v13), .val (.int v14), .val (.ref b110), .unset, .unset, .unset, .unset, .unset, .unset, .unset, .unset, .unset, .unset, .unset, .unset] [(.long q4), (.int v13), (.ref b110)])) _
      refine st115 _ ?_
      show Steps p.tables e below (T115.setTop (mkF m 121 #[.val (.int p0), .val (.int p1), .val (.int p2), .val (.int p3), .val (.long q4), .second, .val (.long q5), .second, .val (.int v1), .val (.long v8), .second, .val (.int v9), .val (.int v10), .val (.int v11), .val (.int v12), .val (.int v13), .val (.int v14), .val (.ref b110), .unset, .unset, .unset, .unset, .unset, .unset, .unset, .unset, .unset, .unset, .unset, .unset] [])) _
      refine XS.aload X115.here hx rfl (hb hby at_121) rfl rfl ?_
      show Steps p.tables e below (T115.setTop (mkF m 123 #[.val (.int p0), .val (.int p1), .val (.int p2), .val (.int p3), .val (.long q4), .second, .val (.long q5), .second, .val (.int v1), .val (.long v8), .second, .val (.int v9), .val (.int v10), .val (.int v11), .val (.int v12), .val (.int v13), .val (.int v14), .val (.ref b110), .unset, .unset, .unset, .unset, .unset, .unset, .unset, .unset, .unset, .unset, .unset, .unset] [(.ref b110)])) _
      refine XS.iload X115.here hx rfl (hb hby at_123) rfl ?_
      show Steps p.tables e below (T115.setTop (mkF m 125 #[.val (.int p0), .val (.int p1), .val (.int p2), .val (.int p3), .val (.long q4), .second, .val (.long q5), .second, .val (.int v1), .val (.long v8), .second, .val (.int v9), .val (.int v10), .val (.int v11), .val (.int v12), .val (.int v13), .val (.int v14), .val (.ref b110), .unset, .unset, .unset, .unset, .unset, .unset, .unset, .unset, .unset, .unset, .unset, .unset] [(.int v13), (.ref b110)])) _
      refine XS.iconst X115.here hx rfl (hb hby at_125) ?_
      show Steps p.tables e below (T115.setTop (mkF m 126 #[.val (.int p0), .val (.int p1), .val (.int p2), .val (.int p3), .val (.long q4), .second, .val (.long q5), .second, .val (.int v1), .val (.long v8), .second, .val (.int v9), .val (.int v10), .val (.int v11), .val (.int v12), .val (.int v13), .val (.int v14), .val (.ref b110), .unset, .unset, .unset, .unset, .unset, .unset, .unset, .unset, .unset, .unset, .unset, .unset] [(.int (1 : Int32)), (.int v13), (.ref b110)])) _
      refine XS.iadd X115.here hx rfl (hb hby at_126) rfl ?_
      show Steps p.tables e below (T115.setTop (mkF m 127 #[.val (.int p0), .val (.int p1), .val (.int p2), .val (.int p3), .val (.long q4), .second, .val (.long q5), .second, .val (.int v1), .val (.long v8), .second, .val (.int v9), .val (.int v10), .val (.int v11), .val (.int v12), .val (.int v13), .val (.int v14), .val (.ref b110), .unset, .unset, .unset, .unset, .unset, .unset, .unset, .unset, .unset, .unset, .unset, .unset] [(.int (v13 + (1 : Int32))), (.ref b110)])) _
      refine XS.lload X115.here hx rfl (hb hby at_127) rfl ?_
      show Steps p.tables e below (T115.setTop (mkF m 129 #[.val (.int p0), .val (.int p1), .val (.int p2), .val (.int p3), .val (.long q4), .second, .val (.long q5), .second, .val (.int v1), .val (.long v8), .second, .val (.int v9), .val (.int v10), .val (.int v11), .val (.int v12), .val (.int v13), .val (.int v14), .val (.ref b110), .unset, .unset, .unset, .unset, .unset, .unset, .unset, .unset, .unset, .unset, .unset, .unset] [(.long q5), (.int (v13 + (1 : Int32))), (.ref b110)])) _
      rw [← hv17]
      refine st120 _ ?_
      show Steps p.tables e below (T120.setTop (mkF m 130 #[.val (.int p0), .val (.int p1), .val (.int p2), .val (.int p3), .val (.long q4), .second, .val (.long q5), .second, .val (.int v1), .val (.long v8), .second, .val (.int v9), .val (.int v10), .val (.int v11), .val (.int v12), .val (.int v13), .val (.int v14), .val (.ref b110), .unset, .unset, .unset, .unset, .unset, .unset, .unset, .unset, .unset, .unset, .unset, .unset] [])) _
      refine st124 _ ?_
      show Steps p.tables e below (T124.setTop (mkF m 133 #[.val (.int p0), .val (.int p1), .val (.int p2), .val (.int p3), .val (.long q4), .second, .val (.long q5), .second, .val (.int v1), .val (.long v8), .second, .val (.int v9), .val (.int v10), .val (.int v11), .val (.int v12), .val (.int v13), .val (.int v14), .val (.ref b110), .unset, .unset, .unset, .unset, .unset, .unset, .unset, .unset, .unset, .unset, .unset, .unset] [(.ref b124)])) _
      refine XS.dup X124.here hx rfl (hb hby at_133) rfl rfl ?_
      show Steps p.tables e below (T124.setTop (mkF m 134 #[.val (.int p0), .val (.int p1), .val (.int p2), .val (.int p3), .val (.long q4), .second, .val (.long q5), .second, .val (.int v1), .val (.long v8), .second, .val (.int v9), .val (.int v10), .val (.int v11), .val (.int v12), .val (.int v13), .val (.int v14), .val (.ref b110), .unset, .unset, .unset, .unset, .unset, .unset, .unset, .unset, .unset, .unset, .unset, .unset] [(.ref b124), (.ref b124)])) _
      refine XS.bipush X124.here hx rfl (hb hby at_134) ?_
      show Steps p.tables e below (T124.setTop (mkF m 136 #[.val (.int p0), .val (.int p1), .val (.int p2), .val (.int p3), .val (.long q4), .second, .val (.long q5), .second, .val (.int v1), .val (.long v8), .second, .val (.int v9), .val (.int v10), .val (.int v11), .val (.int v12), .val (.int v13), .val (.int v14), .val (.ref b110), .unset, .unset, .unset, .unset, .unset, .unset, .unset, .unset, .unset, .unset, .unset, .unset] [(.int (64 : Int32)), (.ref b124), (.ref b124)])) _
      refine XS.iload X124.here hx rfl (hb hby at_136) rfl ?_
      show Steps p.tables e below (T124.setTop (mkF m 138 #[.val (.int p0), .val (.int p1), .val (.int p2), .val (.int p3), .val (.long q4), .second, .val (.long q5), .second, .val (.int v1), .val (.long v8), .second, .val (.int v9), .val (.int v10), .val (.int v11), .val (.int v12), .val (.int v13), .val (.int v14), .val (.ref b110), .unset, .unset, .unset, .unset, .unset, .unset, .unset, .unset, .unset, .unset, .unset, .unset] [(.int v9), (.int (64 : Int32)), (.ref b124), (.ref b124)])) _
      refine st136.trans ?_
      show Steps p.tables e below (T136.setTop (mkF m 141 #[.val (.int p0), .val (.int p1), .val (.int p2), .val (.int p3), .val (.long q4), .second, .val (.long q5), .second, .val (.int v1), .val (.long v8), .second, .val (.int v9), .val (.int v10), .val (.int v11), .val (.int v12), .val (.int v13), .val (.int v14), .val (.ref b110), .unset, .unset, .unset, .unset, .unset, .unset, .unset, .unset, .unset, .unset, .unset, .unset] [(.ref b124)])) _
      refine XS.astore X136.here hx rfl (hb hby at_141) rfl rfl (l' := #[.val (.int p0), .val (.int p1), .val (.int p2), .val (.int p3), .val (.long q4), .second, .val (.long q5), .second, .val (.int v1), .val (.long v8), .second, .val (.int v9), .val (.int v10), .val (.int v11), .val (.int v12), .val (.int v13), .val (.int v14), .val (.ref b110), .val (.ref b124), .unset, .unset, .unset, .unset, .unset, .unset, .unset, .unset, .unset, .unset, .unset]) rfl ?_
      show Steps p.tables e below (T136.setTop (mkF m 143 #[.val (.int p0), .val (.int p1), .val (.int p2), .val (.int p3), .val (.long q4), .second, .val (.long q5), .second, .val (.int v1), .val (.long v8), .second, .val (.int v9), .val (.int v10), .val (.int v11), .val (.int v12), .val (.int v13), .val (.int v14), .val (.ref b110), .val (.ref b124), .unset, .unset, .unset, .unset, .unset, .unset, .unset, .unset, .unset, .unset, .unset] [])) _
      refine XS.aload X136.here hx rfl (hb hby at_143) rfl rfl ?_
      show Steps p.tables e below (T136.setTop (mkF m 145 #[.val (.int p0), .val (.int p1), .val (.int p2), .val (.int p3), .val (.long q4), .second, .val (.long q5), .second, .val (.int v1), .val (.long v8), .second, .val (.int v9), .val (.int v10), .val (.int v11), .val (.int v12), .val (.int v13), .val (.int v14), .val (.ref b110), .val (.ref b124), .unset, .unset, .unset, .unset, .unset, .unset, .unset, .unset, .unset, .unset, .unset] [(.ref b124)])) _
      refine XS.aload X136.here hx rfl (hb hby at_145) rfl rfl ?_
      show Steps p.tables e below (T136.setTop (mkF m 147 #[.val (.int p0), .val (.int p1), .val (.int p2), .val (.int p3), .val (.long q4), .second, .val (.long q5), .second, .val (.int v1), .val (.long v8), .second, .val (.int v9), .val (.int v10), .val (.int v11), .val (.int v12), .val (.int v13), .val (.int v14), .val (.ref b110), .val (.ref b124), .unset, .unset, .unset, .unset, .unset, .unset, .unset, .unset, .unset, .unset, .unset] [(.ref b110), (.ref b124)])) _
      refine XS.iload X136.here hx rfl (hb hby at_147) rfl ?_
      show Steps p.tables e below (T136.setTop (mkF m 149 #[.val (.int p0), .val (.int p1), .val (.int p2), .val (.int p3), .val (.long q4), .second, .val (.long q5), .second, .val (.int v1), .val (.long v8), .second, .val (.int v9), .val (.int v10), .val (.int v11), .val (.int v12), .val (.int v13), .val (.int v14), .val (.ref b110), .val (.ref b124), .unset, .unset, .unset, .unset, .unset, .unset, .unset, .unset, .unset, .unset, .unset] [(.int v11), (.ref b110), (.ref b124)])) _
      refine XS.iload X136.here hx rfl (hb hby at_149) rfl ?_
      show Steps p.tables e below (T136.setTop (mkF m 151 #[.val (.int p0), .val (.int p1), .val (.int p2), .val (.int p3), .val (.long q4), .second, .val (.long q5), .second, .val (.int v1), .val (.long v8), .second, .val (.int v9), .val (.int v10), .val (.int v11), .val (.int v12), .val (.int v13), .val (.int v14), .val (.ref b110), .val (.ref b124), .unset, .unset, .unset, .unset, .unset, .unset, .unset, .unset, .unset, .unset, .unset] [(.int v12), (.int v11), (.ref b110), (.ref b124)])) _
      refine st141.trans ?_
      show Steps p.tables e below (T141.setTop (mkF m 154 #[.val (.int p0), .val (.int p1), .val (.int p2), .val (.int p3), .val (.long q4), .second, .val (.long q5), .second, .val (.int v1), .val (.long v8), .second, .val (.int v9), .val (.int v10), .val (.int v11), .val (.int v12), .val (.int v13), .val (.int v14), .val (.ref b110), .val (.ref b124), .unset, .unset, .unset, .unset, .unset, .unset, .unset, .unset, .unset, .unset, .unset] [])) _
      refine XS.lconst X141.here hx rfl (hb hby at_154) ?_
      show Steps p.tables e below (T141.setTop (mkF m 155 #[.val (.int p0), .val (.int p1), .val (.int p2), .val (.int p3), .val (.long q4), .second, .val (.long q5), .second, .val (.int v1), .val (.long v8), .second, .val (.int v9), .val (.int v10), .val (.int v11), .val (.int v12), .val (.int v13), .val (.int v14), .val (.ref b110), .val (.ref b124), .unset, .unset, .unset, .unset, .unset, .unset, .unset, .unset, .unset, .unset, .unset] [(.long (1 : Int64))])) _
      refine XS.iload X141.here hx rfl (hb hby at_155) rfl ?_
      show Steps p.tables e below (T141.setTop (mkF m 157 #[.val (.int p0), .val (.int p1), .val (.int p2), .val (.int p3), .val (.long q4), .second, .val (.long q5), .second, .val (.int v1), .val (.long v8), .second, .val (.int v9), .val (.int v10), .val (.int v11), .val (.int v12), .val (.int v13), .val (.int v14), .val (.ref b110), .val (.ref b124), .unset, .unset, .unset, .unset, .unset, .unset, .unset, .unset, .unset, .unset, .unset] [(.int v1), (.long (1 : Int64))])) _
      refine XS.lshl X141.here hx rfl (hb hby at_157) rfl ?_
      show Steps p.tables e below (T141.setTop (mkF m 158 #[.val (.int p0), .val (.int p1), .val (.int p2), .val (.int p3), .val (.long q4), .second, .val (.long q5), .second, .val (.int v1), .val (.long v8), .second, .val (.int v9), .val (.int v10), .val (.int v11), .val (.int v12), .val (.int v13), .val (.int v14), .val (.ref b110), .val (.ref b124), .unset, .unset, .unset, .unset, .unset, .unset, .unset, .unset, .unset, .unset, .unset] [(.long ((1 : Int64) <<< (v1 &&& 0x3f).toInt64))])) _
      refine XS.lconst X141.here hx rfl (hb hby at_158) ?_
      show Steps p.tables e below (T141.setTop (mkF m 159 #[.val (.int p0), .val (.int p1), .val (.int p2), .val (.int p3), .val (.long q4), .second, .val (.long q5), .second, .val (.int v1), .val (.long v8), .second, .val (.int v9), .val (.int v10), .val (.int v11), .val (.int v12), .val (.int v13), .val (.int v14), .val (.ref b110), .val (.ref b124), .unset, .unset, .unset, .unset, .unset, .unset, .unset, .unset, .unset, .unset, .unset] [(.long (1 : Int64)), (.long ((1 : Int64) <<< (v1 &&& 0x3f).toInt64))])) _
      refine XS.lsub X141.here hx rfl (hb hby at_159) rfl ?_
      show Steps p.tables e below (T141.setTop (mkF m 160 #[.val (.int p0), .val (.int p1), .val (.int p2), .val (.int p3), .val (.long q4), .second, .val (.long q5), .second, .val (.int v1), .val (.long v8), .second, .val (.int v9), .val (.int v10), .val (.int v11), .val (.int v12), .val (.int v13), .val (.int v14), .val (.ref b110), .val (.ref b124), .unset, .unset, .unset, .unset, .unset, .unset, .unset, .unset, .unset, .unset, .unset] [(.long (((1 : Int64) <<< (v1 &&& 0x3f).toInt64) - (1 : Int64)))])) _
      rw [← hv20]
      show Steps p.tables e below (T141.setTop (mkF m 160 #[.val (.int p0), .val (.int p1), .val (.int p2), .val (.int p3), .val (.long q4), .second, .val (.long q5), .second, .val (.int v1), .val (.long v8), .second, .val (.int v9), .val (.int v10), .val (.int v11), .val (.int v12), .val (.int v13), .val (.int v14), .val (.ref b110), .val (.ref b124), .unset, .unset, .unset, .unset, .unset, .unset, .unset, .unset, .unset, .unset, .unset] [(.long v20)])) _
      refine XS.lstore X141.here hx rfl (hb hby at_160) rfl (l' := #[.val (.int p0), .val (.int p1), .val (.int p2), .val (.int p3), .val (.long q4), .second, .val (.long q5), .second, .val (.int v1), .val (.long v8), .second, .val (.int v9), .val (.int v10), .val (.int v11), .val (.int v12), .val (.int v13), .val (.int v14), .val (.ref b110), .val (.ref b124), .val (.long v20), .second, .unset, .unset, .unset, .unset, .unset, .unset, .unset, .unset, .unset]) rfl ?_
      show Steps p.tables e below (T141.setTop (mkF m 162 #[.val (.int p0), .val (.int p1), .val (.int p2), .val (.int p3), .val (.long q4), .second, .val (.long q5), .second, .val (.int v1), .val (.long v8), .second, .val (.int v9), .val (.int v10), .val (.int v11), .val (.int v12), .val (.int v13), .val (.int v14), .val (.ref b110), .val (.ref b124), .val (.long v20), .second, .unset, .unset, .unset, .unset, .unset, .unset, .unset, .unset, .unset] [])) _
      refine XS.aload X141.here hx rfl (hb hby at_162) rfl rfl ?_
      show Steps p.tables e below (T141.setTop (mkF m 164 #[.val (.int p0), .val (.int p1), .val (.int p2), .val (.int p3), .val (.long q4), .second, .val (.long q5), .second, .val (.int v1), .val (.long v8), .second, .val (.int v9), .val (.int v10), .val (.int v11), .val (.int v12), .val (.int v13), .val (.int v14), .val (.ref b110), .val (.ref b124), .val (.long v20), .second, .unset, .unset, .unset, .unset, .unset, .unset, .unset, .unset, .unset] [(.ref b110)])) _
      refine XS.iload X141.here hx rfl (hb hby at_164) rfl ?_
      show Steps p.tables e below (T141.setTop (mkF m 166 #[.val (.int p0), .val (.int p1), .val (.int p2), .val (.int p3), .val (.long q4), .second, .val (.long q5), .second, .val (.int v1), .val (.long v8), .second, .val (.int v9), .val (.int v10), .val (.int v11), .val (.int v12), .val (.int v13), .val (.int v14), .val (.ref b110), .val (.ref b124), .val (.long v20), .second, .unset, .unset, .unset, .unset, .unset, .unset, .unset, .unset, .unset] [(.int v13), (.ref b110)])) _
      refine own_ldJ X141 hx hZ (rfl : T141.heap = T141.heap) F141_0n (j := v13) hin166_148 (g := (mkF m 166 #[.val (.int p0), .val (.int p1), .val (.int p2), .val (.int p3), .val (.long q4), .second, .val (.long q5), .second, .val (.int v1), .val (.long v8), .second, .val (.int v9), .val (.int v10), .val (.int v11), .val (.int v12), .val (.int v13), .val (.int v14), .val (.ref b110), .val (.ref b124), .val (.long v20), .second, .unset, .unset, .unset, .unset, .unset, .unset, .unset, .unset, .unset] [(.int v13), (.ref b110)])) rfl rfl (hb hby at_166) _ ?_
      show Steps p.tables e below (T141.setTop (mkF m 167 #[.val (.int p0), .val (.int p1), .val (.int p2), .val (.int p3), .val (.long q4), .second, .val (.long q5), .second, .val (.int v1), .val (.long v8), .second, .val (.int v9), .val (.int v10), .val (.int v11), .val (.int v12), .val (.int v13), .val (.int v14), .val (.ref b110), .val (.ref b124), .val (.long v20), .second, .unset, .unset, .unset, .unset, .unset, .unset, .unset, .unset, .unset] [(.long (v19 v13.toNatClampNeg))])) _
      refine XS.lload X141.here hx rfl (hb hby at_167) rfl ?_
      show Steps p.tables e below (T141.setTop (mkF m 169 #[.val (.int p0), .val (.int p1), .val (.int p2), .val (.int p3), .val (.long q4), .second, .val (.long q5), .second, .val (.int v1), .val (.long v8), .second, .val (.int v9), .val (.int v10), .val (.int v11), .val (.int v12), .val (.int v13), .val (.int v14), .val (.ref b110), .val (.ref b124), .val (.long v20), .second, .unset, .unset, .unset, .unset, .unset, .unset, .unset, .unset, .unset] [(.long q4), (.long (v19 v13.toNatClampNeg))])) _
      refine XS.lxor X141.here hx rfl (hb hby at_169) rfl ?_
      show Steps p.tables e below (T141.setTop (mkF m 170 #[.val (.int p0), .val (.int p1), .val (.int p2), .val (.int p3), .val (.long q4), .second, .val (.long q5), .second, .val (.int v1), .val (.long v8), .second, .val (.int v9), .val (.int v10), .val (.int v11), .val (.int v12), .val (.int v13), .val (.int v14), .val (.ref b110), .val (.ref b124), .val (.long v20), .second, .unset, .unset, .unset, .unset, .unset, .unset, .unset, .unset, .unset] [(.long ((v19 v13.toNatClampNeg) ^^^ q4))])) _
      rw [← hv21]
      show Steps p.tables e below (T141.setTop (mkF m 170 #[.val (.int p0), .val (.int p1), .val (.int p2), .val (.int p3), .val (.long q4), .second, .val (.long q5), .second, .val (.int v1), .val (.long v8), .second, .val (.int v9), .val (.int v10), .val (.int v11), .val (.int v12), .val (.int v13), .val (.int v14), .val (.ref b110), .val (.ref b124), .val (.long v20), .second, .unset, .unset, .unset, .unset, .unset, .unset, .unset, .unset, .unset] [(.long v21)])) _
      refine XS.lstore X141.here hx rfl (hb hby at_170) rfl (l' := #[.val (.int p0), .val (.int p1), .val (.int p2), .val (.int p3), .val (.long q4), .second, .val (.long q5), .second, .val (.int v1), .val (.long v8), .second, .val (.int v9), .val (.int v10), .val (.int v11), .val (.int v12), .val (.int v13), .val (.int v14), .val (.ref b110), .val (.ref b124), .val (.long v20), .second, .val (.long v21), .second, .unset, .unset, .unset, .unset, .unset, .unset, .unset]) rfl ?_
      show Steps p.tables e below (T141.setTop (mkF m 172 #[.val (.int p0), .val (.int p1), .val (.int p2), .val (.int p3), .val (.long q4), .second, .val (.long q5), .second, .val (.int v1), .val (.long v8), .second, .val (.int v9), .val (.int v10), .val (.int v11), .val (.int v12), .val (.int v13), .val (.int v14), .val (.ref b110), .val (.ref b124), .val (.long v20), .second, .val (.long v21), .second, .unset, .unset, .unset, .unset, .unset, .unset, .unset] [])) _
      refine XS.lload X141.here hx rfl (hb hby at_172) rfl ?_
      show Steps p.tables e below (T141.setTop (mkF m 174 #[.val (.int p0), .val (.int p1), .val (.int p2), .val (.int p3), .val (.long q4), .second, .val (.long q5), .second, .val (.int v1), .val (.long v8), .second, .val (.int v9), .val (.int v10), .val (.int v11), .val (.int v12), .val (.int v13), .val (.int v14), .val (.ref b110), .val (.ref b124), .val (.long v20), .second, .val (.long v21), .second, .unset, .unset, .unset, .unset, .unset, .unset, .unset] [(.long v21)])) _
      refine XS.lconst X141.here hx rfl (hb hby at_174) ?_
      show Steps p.tables e below (T141.setTop (mkF m 175 #[.val (.int p0), .val (.int p1), .val (.int p2), .val (.int p3), .val (.long q4), .second, .val (.long q5), .second, .val (.int v1), .val (.long v8), .second, .val (.int v9), .val (.int v10), .val (.int v11), .val (.int v12), .val (.int v13), .val (.int v14), .val (.ref b110), .val (.ref b124), .val (.long v20), .second, .val (.long v21), .second, .unset, .unset, .unset, .unset, .unset, .unset, .unset] [(.long (1 : Int64)), (.long v21)])) _
      refine XS.iload X141.here hx rfl (hb hby at_175) rfl ?_
      show Steps p.tables e below (T141.setTop (mkF m 177 #[.val (.int p0), .val (.int p1), .val (.int p2), .val (.int p3), .val (.long q4), .second, .val (.long q5), .second, .val (.int v1), .val (.long v8), .second, .val (.int v9), .val (.int v10), .val (.int v11), .val (.int v12), .val (.int v13), .val (.int v14), .val (.ref b110), .val (.ref b124), .val (.long v20), .second, .val (.long v21), .second, .unset, .unset, .unset, .unset, .unset, .unset, .unset] [(.int v14), (.long (1 : Int64)), (.long v21)])) _
      refine XS.lshl X141.here hx rfl (hb hby at_177) rfl ?_
      show Steps p.tables e below (T141.setTop (mkF m 178 #[.val (.int p0), .val (.int p1), .val (.int p2), .val (.int p3), .val (.long q4), .second, .val (.long q5), .second, .val (.int v1), .val (.long v8), .second, .val (.int v9), .val (.int v10), .val (.int v11), .val (.int v12), .val (.int v13), .val (.int v14), .val (.ref b110), .val (.ref b124), .val (.long v20), .second, .val (.long v21), .second, .unset, .unset, .unset, .unset, .unset, .unset, .unset] [(.long ((1 : Int64) <<< (v14 &&& 0x3f).toInt64)), (.long v21)])) _
      refine XS.lconst X141.here hx rfl (hb hby at_178) ?_
      show Steps p.tables e below (T141.setTop (mkF m 179 #[.val (.int p0), .val (.int p1), .val (.int p2), .val (.int p3), .val (.long q4), .second, .val (.long q5), .second, .val (.int v1), .val (.long v8), .second, .val (.int v9), .val (.int v10), .val (.int v11), .val (.int v12), .val (.int v13), .val (.int v14), .val (.ref b110), .val (.ref b124), .val (.long v20), .second, .val (.long v21), .second, .unset, .unset, .unset, .unset, .unset, .unset, .unset] [(.long (1 : Int64)), (.long ((1 : Int64) <<< (v14 &&& 0x3f).toInt64)), (.long v21)])) _
      refine XS.lsub X141.here hx rfl (hb hby at_179) rfl ?_
      show Steps p.tables e below (T141.setTop (mkF m 180 #[.val (.int p0), .val (.int p1), .val (.int p2), .val (.int p3), .val (.long q4), .second, .val (.long q5), .second, .val (.int v1), .val (.long v8), .second, .val (.int v9), .val (.int v10), .val (.int v11), .val (.int v12), .val (.int v13), .val (.int v14), .val (.ref b110), .val (.ref b124), .val (.long v20), .second, .val (.long v21), .second, .unset, .unset, .unset, .unset, .unset, .unset, .unset] [(.long (((1 : Int64) <<< (v14 &&& 0x3f).toInt64) - (1 : Int64))), (.long v21)])) _
      refine XS.land X141.here hx rfl (hb hby at_180) rfl ?_
      show Steps p.tables e below (T141.setTop (mkF m 181 #[.val (.int p0), .val (.int p1), .val (.int p2), .val (.int p3), .val (.long q4), .second, .val (.long q5), .second, .val (.int v1), .val (.long v8), .second, .val (.int v9), .val (.int v10), .val (.int v11), .val (.int v12), .val (.int v13), .val (.int v14), .val (.ref b110), .val (.ref b124), .val (.long v20), .second, .val (.long v21), .second, .unset, .unset, .unset, .unset, .unset, .unset, .unset] [(.long (v21 &&& (((1 : Int64) <<< (v14 &&& 0x3f).toInt64) - (1 : Int64))))])) _
      refine XS.lconst X141.here hx rfl (hb hby at_181) ?_
      show Steps p.tables e below (T141.setTop (mkF m 182 #[.val (.int p0), .val (.int p1), .val (.int p2), .val (.int p3), .val (.long q4), .second, .val (.long q5), .second, .val (.int v1), .val (.long v8), .second, .val (.int v9), .val (.int v10), .val (.int v11), .val (.int v12), .val (.int v13), .val (.int v14), .val (.ref b110), .val (.ref b124), .val (.long v20), .second, .val (.long v21), .second, .unset, .unset, .unset, .unset, .unset, .unset, .unset] [(.long (0 : Int64)), (.long (v21 &&& (((1 : Int64) <<< (v14 &&& 0x3f).toInt64) - (1 : Int64))))])) _
      refine XS.lcmp X141.here hx rfl (hb hby at_182) rfl ?_
      show Steps p.tables e below (T141.setTop (mkF m 183 #[.val (.int p0), .val (.int p1), .val (.int p2), .val (.int p3), .val (.long q4), .second, .val (.long q5), .second, .val (.int v1), .val (.long v8), .second, .val (.int v9), .val (.int v10), .val (.int v11), .val (.int v12), .val (.int v13), .val (.int v14), .val (.ref b110), .val (.ref b124), .val (.long v20), .second, .val (.long v21), .second, .unset, .unset, .unset, .unset, .unset, .unset, .unset] [(.int (lcmpW (v21 &&& (((1 : Int64) <<< (v14 &&& 0x3f).toInt64) - (1 : Int64))) (0 : Int64)))])) _
      refine st151 _ ?_
      show Steps p.tables e below (T151.setTop (mkF m 191 #[.val (.int p0), .val (.int p1), .val (.int p2), .val (.int p3), .val (.long q4), .second, .val (.long q5), .second, .val (.int v1), .val (.long v8), .second, .val (.int v9), .val (.int v10), .val (.int v11), .val (.int v12), .val (.int v13), .val (.int v14), .val (.ref b110), .val (.ref b124), .val (.long v20), .second, .val (.long v21), .second, .unset, .unset, .unset, .unset, .unset, .unset, .unset] [(.int v23)])) _
      refine XS.istore X151.here hx rfl (hb hby at_191) rfl (l' := #[.val (.int p0), .val (.int p1), .val (.int p2), .val (.int p3), .val (.long q4), .second, .val (.long q5), .second, .val (.int v1), .val (.long v8), .second, .val (.int v9), .val (.int v10), .val (.int v11), .val (.int v12), .val (.int v13), .val (.int v14), .val (.ref b110), .val (.ref b124), .val (.long v20), .second, .val (.long v21), .second, .val (.int v23), .unset, .unset, .unset, .unset, .unset, .unset]) rfl ?_
      show Steps p.tables e below (T151.setTop (mkF m 193 #[.val (.int p0), .val (.int p1), .val (.int p2), .val (.int p3), .val (.long q4), .second, .val (.long q5), .second, .val (.int v1), .val (.long v8), .second, .val (.int v9), .val (.int v10), .val (.int v11), .val (.int v12), .val (.int v13), .val (.int v14), .val (.ref b110), .val (.ref b124), .val (.long v20), .second, .val (.long v21), .second, .val (.int v23), .unset, .unset, .unset, .unset, .unset, .unset] [])) _
      refine XS.lload X151.here hx rfl (hb hby at_193) rfl ?_
      show Steps p.tables e below (T151.setTop (mkF m 195 #[.val (.int p0), .val (.int p1), .val (.int p2), .val (.int p3), .val (.long q4), .second, .val (.long q5), .second, .val (.int v1), .val (.long v8), .second, .val (.int v9), .val (.int v10), .val (.int v11), .val (.int v12), .val (.int v13), .val (.int v14), .val (.ref b110), .val (.ref b124), .val (.long v20), .second, .val (.long v21), .second, .val (.int v23), .unset, .unset, .unset, .unset, .unset, .unset] [(.long v21)])) _
      refine XS.iload X151.here hx rfl (hb hby at_195) rfl ?_
      show Steps p.tables e below (T151.setTop (mkF m 197 #[.val (.int p0), .val (.int p1), .val (.int p2), .val (.int p3), .val (.long q4), .second, .val (.long q5), .second, .val (.int v1), .val (.long v8), .second, .val (.int v9), .val (.int v10), .val (.int v11), .val (.int v12), .val (.int v13), .val (.int v14), .val (.ref b110), .val (.ref b124), .val (.long v20), .second, .val (.long v21), .second, .val (.int v23), .unset, .unset, .unset, .unset, .unset, .unset] [(.int v14), (.long v21)])) _
      refine XS.lushr X151.here hx rfl (hb hby at_197) rfl ?_
      show Steps p.tables e below (T151.setTop (mkF m 198 #[.val (.int p0), .val (.int p1), .val (.int p2), .val (.int p3), .val (.long q4), .second, .val (.long q5), .second, .val (.int v1), .val (.long v8), .second, .val (.int v9), .val (.int v10), .val (.int v11), .val (.int v12), .val (.int v13), .val (.int v14), .val (.ref b110), .val (.ref b124), .val (.long v20), .second, .val (.long v21), .second, .val (.int v23), .unset, .unset, .unset, .unset, .unset, .unset] [(.long ((v21.toUInt64 >>> (v14 &&& 0x3f).toInt64.toUInt64).toInt64))])) _
      refine XS.iload X151.here hx rfl (hb hby at_198) rfl ?_
      show Steps p.tables e below (T151.setTop (mkF m 200 #[.val (.int p0), .val (.int p1), .val (.int p2), .val (.int p3), .val (.long q4), .second, .val (.long q5), .second, .val (.int v1), .val (.long v8), .second, .val (.int v9), .val (.int v10), .val (.int v11), .val (.int v12), .val (.int v13), .val (.int v14), .val (.ref b110), .val (.ref b124), .val (.long v20), .second, .val (.long v21), .second, .val (.int v23), .unset, .unset, .unset, .unset, .unset, .unset] [(.int v1), (.long ((v21.toUInt64 >>> (v14 &&& 0x3f).toInt64.toUInt64).toInt64))])) _
      refine XS.lushr X151.here hx rfl (hb hby at_200) rfl ?_
      show Steps p.tables e below (T151.setTop (mkF m 201 #[.val (.int p0), .val (.int p1), .val (.int p2), .val (.int p3), .val (.long q4), .second, .val (.long q5), .second, .val (.int v1), .val (.long v8), .second, .val (.int v9), .val (.int v10), .val (.int v11), .val (.int v12), .val (.int v13), .val (.int v14), .val (.ref b110), .val (.ref b124), .val (.long v20), .second, .val (.long v21), .second, .val (.int v23), .unset, .unset, .unset, .unset, .unset, .unset] [(.long ((((v21.toUInt64 >>> (v14 &&& 0x3f).toInt64.toUInt64).toInt64).toUInt64 >>> (v1 &&& 0x3f).toInt64.toUInt64).toInt64))])) _
      refine XS.lconst X151.here hx rfl (hb hby at_201) ?_
      show Steps p.tables e below (T151.setTop (mkF m 202 #[.val (.int p0), .val (.int p1), .val (.int p2), .val (.int p3), .val (.long q4), .second, .val (.long q5), .second, .val (.int v1), .val (.long v8), .second, .val (.int v9), .val (.int v10), .val (.int v11), .val (.int v12), .val (.int v13), .val (.int v14), .val (.ref b110), .val (.ref b124), .val (.long v20), .second, .val (.long v21), .second, .val (.int v23), .unset, .unset, .unset, .unset, .unset, .unset] [(.long (0 : Int64)), (.long ((((v21.toUInt64 >>> (v14 &&& 0x3f).toInt64.toUInt64).toInt64).toUInt64 >>> (v1 &&& 0x3f).toInt64.toUInt64).toInt64))])) _
      refine XS.lcmp X151.here hx rfl (hb hby at_202) rfl ?_
      show Steps p.tables e below (T151.setTop (mkF m 203 #[.val (.int p0), .val (.int p1), .val (.int p2), .val (.int p3), .val (.long q4), .second, .val (.long q5), .second, .val (.int v1), .val (.long v8), .second, .val (.int v9), .val (.int v10), .val (.int v11), .val (.int v12), .val (.int v13), .val (.int v14), .val (.ref b110), .val (.ref b124), .val (.long v20), .second, .val (.long v21), .second, .val (.int v23), .unset, .unset, .unset, .unset, .unset, .unset] [(.int (lcmpW ((((v21.toUInt64 >>> (v14 &&& 0x3f).toInt64.toUInt64).toInt64).toUInt64 >>> (v1 &&& 0x3f).toInt64.toUInt64).toInt64) (0 : Int64)))])) _
      refine st154 _ ?_
      show Steps p.tables e below (T154.setTop (mkF m 211 #[.val (.int p0), .val (.int p1), .val (.int p2), .val (.int p3), .val (.long q4), .second, .val (.long q5), .second, .val (.int v1), .val (.long v8), .second, .val (.int v9), .val (.int v10), .val (.int v11), .val (.int v12), .val (.int v13), .val (.int v14), .val (.ref b110), .val (.ref b124), .val (.long v20), .second, .val (.long v21), .second, .val (.int v23), .unset, .unset, .unset, .unset, .unset, .unset] [(.int v25)])) _
      refine XS.istore X154.here hx rfl (hb hby at_211) rfl (l' := #[.val (.int p0), .val (.int p1), .val (.int p2), .val (.int p3), .val (.long q4), .second, .val (.long q5), .second, .val (.int v1), .val (.long v8), .second, .val (.int v9), .val (.int v10), .val (.int v11), .val (.int v12), .val (.int v13), .val (.int v14), .val (.ref b110), .val (.ref b124), .val (.long v20), .second, .val (.long v21), .second, .val (.int v23), .val (.int v25), .unset, .unset, .unset, .unset, .unset]) rfl ?_
      show Steps p.tables e below (T154.setTop (mkF m 213 #[.val (.int p0), .val (.int p1), .val (.int p2), .val (.int p3), .val (.long q4), .second, .val (.long q5), .second, .val (.int v1), .val (.long v8), .second, .val (.int v9), .val (.int v10), .val (.int v11), .val (.int v12), .val (.int v13), .val (.int v14), .val (.ref b110), .val (.ref b124), .val (.long v20), .second, .val (.long v21), .second, .val (.int v23), .val (.int v25), .unset, .unset, .unset, .unset, .unset] [])) _
      refine XS.aload X154.here hx rfl (hb hby at_213) rfl rfl ?_
      show Steps p.tables e below (T154.setTop (mkF m 215 #[.val (.int p0), .val (.int p1), .val (.int p2), .val (.int p3), .val (.long q4), .second, .val (.long q5), .second, .val (.int v1), .val (.long v8), .second, .val (.int v9), .val (.int v10), .val (.int v11), .val (.int v12), .val (.int v13), .val (.int v14), .val (.ref b110), .val (.ref b124), .val (.long v20), .second, .val (.long v21), .second, .val (.int v23), .val (.int v25), .unset, .unset, .unset, .unset, .unset] [(.ref b110)])) _
      refine XS.iload X154.here hx rfl (hb hby at_215) rfl ?_
      show Steps p.tables e below (T154.setTop (mkF m 217 #[.val (.int p0), .val (.int p1), .val (.int p2), .val (.int p3), .val (.long q4), .second, .val (.long q5), .second, .val (.int v1), .val (.long v8), .second, .val (.int v9), .val (.int v10), .val (.int v11), .val (.int v12), .val (.int v13), .val (.int v14), .val (.ref b110), .val (.ref b124), .val (.long v20), .second, .val (.long v21), .second, .val (.int v23), .val (.int v25), .unset, .unset, .unset, .unset, .unset] [(.int v13), (.ref b110)])) _
      refine own_ldJ X154 hx hZ e154 F141_0n (j := v13) hin217_155 (g := (mkF m 217 #[.val (.int p0), .val (.int p1), .val (.int p2), .val (.int p3), .val (.long q4), .second, .val (.long q5), .second, .val (.int v1), .val (.long v8), .second, .val (.int v9), .val (.int v10), .val (.int v11), .val (.int v12), .val (.int v13), .val (.int v14), .val (.ref b110), .val (.ref b124), .val (.long v20), .second, .val (.long v21), .second, .val (.int v23), .val (.int v25), .unset, .unset, .unset, .unset, .unset] [(.int v13), (.ref b110)])) rfl rfl (hb hby at_217) _ ?_
      show Steps p.tables e below (T154.setTop (mkF m 218 #[.val (.int p0), .val (.int p1), .val (.int p2), .val (.int p3), .val (.long q4), .second, .val (.long q5), .second, .val (.int v1), .val (.long v8), .second, .val (.int v9), .val (.int v10), .val (.int v11), .val (.int v12), .val (.int v13), .val (.int v14), .val (.ref b110), .val (.ref b124), .val (.long v20), .second, .val (.long v21), .second, .val (.int v23), .val (.int v25), .unset, .unset, .unset, .unset, .unset] [(.long (v19 v13.toNatClampNeg))])) _
      refine XS.iload X154.here hx rfl (hb hby at_218) rfl ?_
      show Steps p.tables e below (T154.setTop (mkF m 220 #[.val (.int p0), .val (.int p1), .val (.int p2), .val (.int p3), .val (.long q4), .second, .val (.long q5), .second, .val (.int v1), .val (.long v8), .second, .val (.int v9), .val (.int v10), .val (.int v11), .val (.int v12), .val (.int v13), .val (.int v14), .val (.ref b110), .val (.ref b124), .val (.long v20), .second, .val (.long v21), .second, .val (.int v23), .val (.int v25), .unset, .unset, .unset, .unset, .unset] [(.int v14), (.long (v19 v13.toNatClampNeg))])) _
      refine XS.lushr X154.here hx rfl (hb hby at_220) rfl ?_
      show Steps p.tables e below (T154.setTop (mkF m 221 #[.val (.int p0), .val (.int p1), .val (.int p2), .val (.int p3), .val (.long q4), .second, .val (.long q5), .second, .val (.int v1), .val (.long v8), .second, .val (.int v9), .val (.int v10), .val (.int v11), .val (.int v12), .val (.int v13), .val (.int v14), .val (.ref b110), .val (.ref b124), .val (.long v20), .second, .val (.long v21), .second, .val (.int v23), .val (.int v25), .unset, .unset, .unset, .unset, .unset] [(.long (((v19 v13.toNatClampNeg).toUInt64 >>> (v14 &&& 0x3f).toInt64.toUInt64).toInt64))])) _
      refine XS.lload X154.here hx rfl (hb hby at_221) rfl ?_
      show Steps p.tables e below (T154.setTop (mkF m 223 #[.val (.int p0), .val (.int p1), .val (.int p2), .val (.int p3), .val (.long q4), .second, .val (.long q5), .second, .val (.int v1), .val (.long v8), .second, .val (.int v9), .val (.int v10), .val (.int v11), .val (.int v12), .val (.int v13), .val (.int v14), .val (.ref b110), .val (.ref b124), .val (.long v20), .second, .val (.long v21), .second, .val (.int v23), .val (.int v25), .unset, .unset, .unset, .unset, .unset] [(.long v20), (.long (((v19 v13.toNatClampNeg).toUInt64 >>> (v14 &&& 0x3f).toInt64.toUInt64).toInt64))])) _
      refine XS.land X154.here hx rfl (hb hby at_223) rfl ?_
      show Steps p.tables e below (T154.setTop (mkF m 224 #[.val (.int p0), .val (.int p1), .val (.int p2), .val (.int p3), .val (.long q4), .second, .val (.long q5), .second, .val (.int v1), .val (.long v8), .second, .val (.int v9), .val (.int v10), .val (.int v11), .val (.int v12), .val (.int v13), .val (.int v14), .val (.ref b110), .val (.ref b124), .val (.long v20), .second, .val (.long v21), .second, .val (.int v23), .val (.int v25), .unset, .unset, .unset, .unset, .unset] [(.long ((((v19 v13.toNatClampNeg).toUInt64 >>> (v14 &&& 0x3f).toInt64.toUInt64).toInt64) &&& v20))])) _
      refine XS.iload X154.here hx rfl (hb hby at_224) rfl ?_
      show Steps p.tables e below (T154.setTop (mkF m 226 #[.val (.int p0), .val (.int p1), .val (.int p2), .val (.int p3), .val (.long q4), .second, .val (.long q5), .second, .val (.int v1), .val (.long v8), .second, .val (.int v9), .val (.int v10), .val (.int v11), .val (.int v12), .val (.int v13), .val (.int v14), .val (.ref b110), .val (.ref b124), .val (.long v20), .second, .val (.long v21), .second, .val (.int v23), .val (.int v25), .unset, .unset, .unset, .unset, .unset] [(.int v12), (.long ((((v19 v13.toNatClampNeg).toUInt64 >>> (v14 &&& 0x3f).toInt64.toUInt64).toInt64) &&& v20))])) _
      refine XS.iconst X154.here hx rfl (hb hby at_226) ?_
      show Steps p.tables e below (T154.setTop (mkF m 227 #[.val (.int p0), .val (.int p1), .val (.int p2), .val (.int p3), .val (.long q4), .second, .val (.long q5), .second, .val (.int v1), .val (.long v8), .second, .val (.int v9), .val (.int v10), .val (.int v11), .val (.int v12), .val (.int v13), .val (.int v14), .val (.ref b110), .val (.ref b124), .val (.long v20), .second, .val (.long v21), .second, .val (.int v23), .val (.int v25), .unset, .unset, .unset, .unset, .unset] [(.int (1 : Int32)), (.int v12), (.long ((((v19 v13.toNatClampNeg).toUInt64 >>> (v14 &&& 0x3f).toInt64.toUInt64).toInt64) &&& v20))])) _
      refine XS.isub X154.here hx rfl (hb hby at_227) rfl ?_
      show Steps p.tables e below (T154.setTop (mkF m 228 #[.val (.int p0), .val (.int p1), .val (.int p2), .val (.int p3), .val (.long q4), .second, .val (.long q5), .second, .val (.int v1), .val (.long v8), .second, .val (.int v9), .val (.int v10), .val (.int v11), .val (.int v12), .val (.int v13), .val (.int v14), .val (.ref b110), .val (.ref b124), .val (.long v20), .second, .val (.long v21), .second, .val (.int v23), .val (.int v25), .unset, .unset, .unset, .unset, .unset] [(.int (v12 - (1 : Int32))), (.long ((((v19 v13.toNatClampNeg).toUInt64 >>> (v14 &&& 0x3f).toInt64.toUInt64).toInt64) &&& v20))])) _
      refine XS.i2l X154.here hx rfl (hb hby at_228) rfl ?_
      show Steps p.tables e below (T154.setTop (mkF m 229 #[.val (.int p0), .val (.int p1), .val (.int p2), .val (.int p3), .val (.long q4), .second, .val (.long q5), .second, .val (.int v1), .val (.long v8), .second, .val (.int v9), .val (.int v10), .val (.int v11), .val (.int v12), .val (.int v13), .val (.int v14), .val (.ref b110), .val (.ref b124), .val (.long v20), .second, .val (.long v21), .second, .val (.int v23), .val (.int v25), .unset, .unset, .unset, .unset, .unset] [(.long ((v12 - (1 : Int32)).toInt64)), (.long ((((v19 v13.toNatClampNeg).toUInt64 >>> (v14 &&& 0x3f).toInt64.toUInt64).toInt64) &&& v20))])) _
      refine XS.lcmp X154.here hx rfl (hb hby at_229) rfl ?_
      show Steps p.tables e below (T154.setTop (mkF m 230 #[.val (.int p0), .val (.int p1), .val (.int p2), .val (.int p3), .val (.long q4), .second, .val (.long q5), .second, .val (.int v1), .val (.long v8), .second, .val (.int v9), .val (.int v10), .val (.int v11), .val (.int v12), .val (.int v13), .val (.int v14), .val (.ref b110), .val (.ref b124), .val (.long v20), .second, .val (.long v21), .second, .val (.int v23), .val (.int v25), .unset, .unset, .unset, .unset, .unset] [(.int (lcmpW ((((v19 v13.toNatClampNeg).toUInt64 >>> (v14 &&& 0x3f).toInt64.toUInt64).toInt64) &&& v20) ((v12 - (1 : Int32)).toInt64)))])) _
      refine st158 _ ?_
      show Steps p.tables e below (T158.setTop (mkF m 238 #[.val (.int p0), .val (.int p1), .val (.int p2), .val (.int p3), .val (.long q4), .second, .val (.long q5), .second, .val (.int v1), .val (.long v8), .second, .val (.int v9), .val (.int v10), .val (.int v11), .val (.int v12), .val (.int v13), .val (.int v14), .val (.ref b110), .val (.ref b124), .val (.long v20), .second, .val (.long v21), .second, .val (.int v23), .val (.int v25), .unset, .unset, .unset, .unset, .unset] [(.int v27)])) _
      refine XS.istore X158.here hx rfl (hb hby at_238) rfl (l' := #[.val (.int p0), .val (.int p1), .val (.int p2), .val (.int p3), .val (.long q4), .second, .val (.long q5), .second, .val (.int v1), .val (.long v8), .second, .val (.int v9), .val (.int v10), .val (.int v11), .val (.int v12), .val (.int v13), .val (.int v14), .val (.ref b110), .val (.ref b124), .val (.long v20), .second, .val (.long v21), .second, .val (.int v23), .val (.int v25), .val (.int v27), .unset, .unset, .unset, .unset]) rfl ?_
      show Steps p.tables e below (T158.setTop (mkF m 240 #[.val (.int p0), .val (.int p1), .val (.int p2), .val (.int p3), .val (.long q4), .second, .val (.long q5), .second, .val (.int v1), .val (.long v8), .second, .val (.int v9), .val (.int v10), .val (.int v11), .val (.int v12), .val (.int v13), .val (.int v14), .val (.ref b110), .val (.ref b124), .val (.long v20), .second, .val (.long v21), .second, .val (.int v23), .val (.int v25), .val (.int v27), .unset, .unset, .unset, .unset] [])) _
      refine XS.aload X158.here hx rfl (hb hby at_240) rfl rfl ?_
      show Steps p.tables e below (T158.setTop (mkF m 242 #[.val (.int p0), .val (.int p1), .val (.int p2), .val (.int p3), .val (.long q4), .second, .val (.long q5), .second, .val (.int v1), .val (.long v8), .second, .val (.int v9), .val (.int v10), .val (.int v11), .val (.int v12), .val (.int v13), .val (.int v14), .val (.ref b110), .val (.ref b124), .val (.long v20), .second, .val (.long v21), .second, .val (.int v23), .val (.int v25), .val (.int v27), .unset, .unset, .unset, .unset] [(.ref b124)])) _
      refine XS.aload X158.here hx rfl (hb hby at_242) rfl rfl ?_
      show Steps p.tables e below (T158.setTop (mkF m 244 #[.val (.int p0), .val (.int p1), .val (.int p2), .val (.int p3), .val (.long q4), .second, .val (.long q5), .second, .val (.int v1), .val (.long v8), .second, .val (.int v9), .val (.int v10), .val (.int v11), .val (.int v12), .val (.int v13), .val (.int v14), .val (.ref b110), .val (.ref b124), .val (.long v20), .second, .val (.long v21), .second, .val (.int v23), .val (.int v25), .val (.int v27), .unset, .unset, .unset, .unset] [(.ref b110), (.ref b124)])) _
      refine XS.iload X158.here hx rfl (hb hby at_244) rfl ?_
      show Steps p.tables e below (T158.setTop (mkF m 246 #[.val (.int p0), .val (.int p1), .val (.int p2), .val (.int p3), .val (.long q4), .second, .val (.long q5), .second, .val (.int v1), .val (.long v8), .second, .val (.int v9), .val (.int v10), .val (.int v11), .val (.int v12), .val (.int v13), .val (.int v14), .val (.ref b110), .val (.ref b124), .val (.long v20), .second, .val (.long v21), .second, .val (.int v23), .val (.int v25), .val (.int v27), .unset, .unset, .unset, .unset] [(.int v11), (.ref b110), (.ref b124)])) _
      refine st159.trans ?_
      show Steps p.tables e below (T159.setTop (mkF m 249 #[.val (.int p0), .val (.int p1), .val (.int p2), .val (.int p3), .val (.long q4), .second, .val (.long q5), .second, .val (.int v1), .val (.long v8), .second, .val (.int v9), .val (.int v10), .val (.int v11), .val (.int v12), .val (.int v13), .val (.int v14), .val (.ref b110), .val (.ref b124), .val (.long v20), .second, .val (.long v21), .second, .val (.int v23), .val (.int v25), .val (.int v27), .unset, .unset, .unset, .unset] [(.int (own_r7 v11 v19 v10 v1 (((1 : Int64) <<< (v1 &&& 0x3f).toInt64) - (1 : Int64))))])) _
      refine XS.iload X159.here hx rfl (hb hby at_249) rfl ?_
      show Steps p.tables e below (T159.setTop (mkF m 251 #[.val (.int p0), .val (.int p1), .val (.int p2), .val (.int p3), .val (.long q4), .second, .val (.long q5), .second, .val (.int v1), .val (.long v8), .second, .val (.int v9), .val (.int v10), .val (.int v11), .val (.int v12), .val (.int v13), .val (.int v14), .val (.ref b110), .val (.ref b124), .val (.long v20), .second, .val (.long v21), .second, .val (.int v23), .val (.int v25), .val (.int v27), .unset, .unset, .unset, .unset] [(.int v12), (.int (own_r7 v11 v19 v10 v1 (((1 : Int64) <<< (v1 &&& 0x3f).toInt64) - (1 : Int64))))])) _
      refine st162 _ ?_
      show Steps p.tables e below (T162.setTop (mkF m 259 #[.val (.int p0), .val (.int p1), .val (.int p2), .val (.int p3), .val (.long q4), .second, .val (.long q5), .second, .val (.int v1), .val (.long v8), .second, .val (.int v9), .val (.int v10), .val (.int v11), .val (.int v12), .val (.int v13), .val (.int v14), .val (.ref b110), .val (.ref b124), .val (.long v20), .second, .val (.long v21), .second, .val (.int v23), .val (.int v25), .val (.int v27), .unset, .unset, .unset, .unset] [(.int v29)])) _
      refine XS.istore X162.here hx rfl (hb hby at_259) rfl (l' := #[.val (.int p0), .val (.int p1), .val (.int p2), .val (.int p3), .val (.long q4), .second, .val (.long q5), .second, .val (.int v1), .val (.long v8), .second, .val (.int v9), .val (.int v10), .val (.int v11), .val (.int v12), .val (.int v13), .val (.int v14), .val (.ref b110), .val (.ref b124), .val (.long v20), .second, .val (.long v21), .second, .val (.int v23), .val (.int v25), .val (.int v27), .val (.int v29), .unset, .unset, .unset]) rfl ?_
      show Steps p.tables e below (T162.setTop (mkF m 261 #[.val (.int p0), .val (.int p1), .val (.int p2), .val (.int p3), .val (.long q4), .second, .val (.long q5), .second, .val (.int v1), .val (.long v8), .second, .val (.int v9), .val (.int v10), .val (.int v11), .val (.int v12), .val (.int v13), .val (.int v14), .val (.ref b110), .val (.ref b124), .val (.long v20), .second, .val (.long v21), .second, .val (.int v23), .val (.int v25), .val (.int v27), .val (.int v29), .unset, .unset, .unset] [])) _
      refine XS.aload X162.here hx rfl (hb hby at_261) rfl rfl ?_
      show Steps p.tables e below (T162.setTop (mkF m 263 #[.val (.int p0), .val (.int p1), .val (.int p2), .val (.int p3), .val (.long q4), .second, .val (.long q5), .second, .val (.int v1), .val (.long v8), .second, .val (.int v9), .val (.int v10), .val (.int v11), .val (.int v12), .val (.int v13), .val (.int v14), .val (.ref b110), .val (.ref b124), .val (.long v20), .second, .val (.long v21), .second, .val (.int v23), .val (.int v25), .val (.int v27), .val (.int v29), .unset, .unset, .unset] [(.ref b110)])) _
      refine XS.iload X162.here hx rfl (hb hby at_263) rfl ?_
      show Steps p.tables e below (T162.setTop (mkF m 265 #[.val (.int p0), .val (.int p1), .val (.int p2), .val (.int p3), .val (.long q4), .second, .val (.long q5), .second, .val (.int v1), .val (.long v8), .second, .val (.int v9), .val (.int v10), .val (.int v11), .val (.int v12), .val (.int v13), .val (.int v14), .val (.ref b110), .val (.ref b124), .val (.long v20), .second, .val (.long v21), .second, .val (.int v23), .val (.int v25), .val (.int v27), .val (.int v29), .unset, .unset, .unset] [(.int v13), (.ref b110)])) _
      refine XS.iconst X162.here hx rfl (hb hby at_265) ?_
      show Steps p.tables e below (T162.setTop (mkF m 266 #[.val (.int p0), .val (.int p1), .val (.int p2), .val (.int p3), .val (.long q4), .second, .val (.long q5), .second, .val (.int v1), .val (.long v8), .second, .val (.int v9), .val (.int v10), .val (.int v11), .val (.int v12), .val (.int v13), .val (.int v14), .val (.ref b110), .val (.ref b124), .val (.long v20), .second, .val (.long v21), .second, .val (.int v23), .val (.int v25), .val (.int v27), .val (.int v29), .unset, .unset, .unset] [(.int (1 : Int32)), (.int v13), (.ref b110)])) _
      refine XS.iadd X162.here hx rfl (hb hby at_266) rfl ?_
      show Steps p.tables e below (T162.setTop (mkF m 267 #[.val (.int p0), .val (.int p1), .val (.int p2), .val (.int p3), .val (.long q4), .second, .val (.long q5), .second, .val (.int v1), .val (.long v8), .second, .val (.int v9), .val (.int v10), .val (.int v11), .val (.int v12), .val (.int v13), .val (.int v14), .val (.ref b110), .val (.ref b124), .val (.long v20), .second, .val (.long v21), .second, .val (.int v23), .val (.int v25), .val (.int v27), .val (.int v29), .unset, .unset, .unset] [(.int (v13 + (1 : Int32))), (.ref b110)])) _
      rw [← hv17]
      refine own_ldJ X162 hx hZ e162 F141_0n (j := v17) hin267_163 (g := (mkF m 267 #[.val (.int p0), .val (.int p1), .val (.int p2), .val (.int p3), .val (.long q4), .second, .val (.long q5), .second, .val (.int v1), .val (.long v8), .second, .val (.int v9), .val (.int v10), .val (.int v11), .val (.int v12), .val (.int v13), .val (.int v14), .val (.ref b110), .val (.ref b124), .val (.long v20), .second, .val (.long v21), .second, .val (.int v23), .val (.int v25), .val (.int v27), .val (.int v29), .unset, .unset, .unset] [(.int v17), (.ref b110)])) rfl rfl (hb hby at_267) _ ?_
      show Steps p.tables e below (T162.setTop (mkF m 268 #[.val (.int p0), .val (.int p1), .val (.int p2), .val (.int p3), .val (.long q4), .second, .val (.long q5), .second, .val (.int v1), .val (.long v8), .second, .val (.int v9), .val (.int v10), .val (.int v11), .val (.int v12), .val (.int v13), .val (.int v14), .val (.ref b110), .val (.ref b124), .val (.long v20), .second, .val (.long v21), .second, .val (.int v23), .val (.int v25), .val (.int v27), .val (.int v29), .unset, .unset, .unset] [(.long (v19 v17.toNatClampNeg))])) _
      refine XS.lload X162.here hx rfl (hb hby at_268) rfl ?_
      show Steps p.tables e below (T162.setTop (mkF m 270 #[.val (.int p0), .val (.int p1), .val (.int p2), .val (.int p3), .val (.long q4), .second, .val (.long q5), .second, .val (.int v1), .val (.long v8), .second, .val (.int v9), .val (.int v10), .val (.int v11), .val (.int v12), .val (.int v13), .val (.int v14), .val (.ref b110), .val (.ref b124), .val (.long v20), .second, .val (.long v21), .second, .val (.int v23), .val (.int v25), .val (.int v27), .val (.int v29), .unset, .unset, .unset] [(.long q5), (.long (v19 v17.toNatClampNeg))])) _
      refine XS.lcmp X162.here hx rfl (hb hby at_270) rfl ?_
      show Steps p.tables e below (T162.setTop (mkF m 271 #[.val (.int p0), .val (.int p1), .val (.int p2), .val (.int p3), .val (.long q4), .second, .val (.long q5), .second, .val (.int v1), .val (.long v8), .second, .val (.int v9), .val (.int v10), .val (.int v11), .val (.int v12), .val (.int v13), .val (.int v14), .val (.ref b110), .val (.ref b124), .val (.long v20), .second, .val (.long v21), .second, .val (.int v23), .val (.int v25), .val (.int v27), .val (.int v29), .unset, .unset, .unset] [(.int (lcmpW (v19 v17.toNatClampNeg) q5))])) _
      refine st166 _ ?_
      show Steps p.tables e below (T166.setTop (mkF m 279 #[.val (.int p0), .val (.int p1), .val (.int p2), .val (.int p3), .val (.long q4), .second, .val (.long q5), .second, .val (.int v1), .val (.long v8), .second, .val (.int v9), .val (.int v10), .val (.int v11), .val (.int v12), .val (.int v13), .val (.int v14), .val (.ref b110), .val (.ref b124), .val (.long v20), .second, .val (.long v21), .second, .val (.int v23), .val (.int v25), .val (.int v27), .val (.int v29), .unset, .unset, .unset] [(.int v31)])) _
      refine XS.istore X166.here hx rfl (hb hby at_279) rfl (l' := #[.val (.int p0), .val (.int p1), .val (.int p2), .val (.int p3), .val (.long q4), .second, .val (.long q5), .second, .val (.int v1), .val (.long v8), .second, .val (.int v9), .val (.int v10), .val (.int v11), .val (.int v12), .val (.int v13), .val (.int v14), .val (.ref b110), .val (.ref b124), .val (.long v20), .second, .val (.long v21), .second, .val (.int v23), .val (.int v25), .val (.int v27), .val (.int v29), .val (.int v31), .unset, .unset]) rfl ?_
      show Steps p.tables e below (T166.setTop (mkF m 281 #[.val (.int p0), .val (.int p1), .val (.int p2), .val (.int p3), .val (.long q4), .second, .val (.long q5), .second, .val (.int v1), .val (.long v8), .second, .val (.int v9), .val (.int v10), .val (.int v11), .val (.int v12), .val (.int v13), .val (.int v14), .val (.ref b110), .val (.ref b124), .val (.long v20), .second, .val (.long v21), .second, .val (.int v23), .val (.int v25), .val (.int v27), .val (.int v29), .val (.int v31), .unset, .unset] [])) _
      refine XS.iload X166.here hx rfl (hb hby at_281) rfl ?_
      show Steps p.tables e below (T166.setTop (mkF m 283 #[.val (.int p0), .val (.int p1), .val (.int p2), .val (.int p3), .val (.long q4), .second, .val (.long q5), .second, .val (.int v1), .val (.long v8), .second, .val (.int v9), .val (.int v10), .val (.int v11), .val (.int v12), .val (.int v13), .val (.int v14), .val (.ref b110), .val (.ref b124), .val (.long v20), .second, .val (.long v21), .second, .val (.int v23), .val (.int v25), .val (.int v27), .val (.int v29), .val (.int v31), .unset, .unset] [(.int v13)])) _
      refine st173 _ ?_
      show Steps p.tables e below (T173.setTop (mkF m 303 #[.val (.int p0), .val (.int p1), .val (.int p2), .val (.int p3), .val (.long q4), .second, .val (.long q5), .second, .val (.int v1), .val (.long v8), .second, .val (.int v9), .val (.int v10), .val (.int v11), .val (.int v12), .val (.int v13), .val (.int v14), .val (.ref b110), .val (.ref b124), .val (.long v20), .second, .val (.long v21), .second, .val (.int v23), .val (.int v25), .val (.int v27), .val (.int v29), .val (.int v31), .unset, .unset] [(.int v36)])) _
      refine XS.istore X173.here hx rfl (hb hby at_303) rfl (l' := #[.val (.int p0), .val (.int p1), .val (.int p2), .val (.int p3), .val (.long q4), .second, .val (.long q5), .second, .val (.int v1), .val (.long v8), .second, .val (.int v9), .val (.int v10), .val (.int v11), .val (.int v12), .val (.int v13), .val (.int v14), .val (.ref b110), .val (.ref b124), .val (.long v20), .second, .val (.long v21), .second, .val (.int v23), .val (.int v25), .val (.int v27), .val (.int v29), .val (.int v31), .val (.int v36), .unset]) rfl ?_
      show Steps p.tables e below (T173.setTop (mkF m 305 #[.val (.int p0), .val (.int p1), .val (.int p2), .val (.int p3), .val (.long q4), .second, .val (.long q5), .second, .val (.int v1), .val (.long v8), .second, .val (.int v9), .val (.int v10), .val (.int v11), .val (.int v12), .val (.int v13), .val (.int v14), .val (.ref b110), .val (.ref b124), .val (.long v20), .second, .val (.long v21), .second, .val (.int v23), .val (.int v25), .val (.int v27), .val (.int v29), .val (.int v31), .val (.int v36), .unset] [])) _
      refine XS.aload X173.here hx rfl (hb hby at_305) rfl rfl ?_
      show Steps p.tables e below (T173.setTop (mkF m 307 #[.val (.int p0), .val (.int p1), .val (.int p2), .val (.int p3), .val (.long q4), .second, .val (.long q5), .second, .val (.int v1), .val (.long v8), .second, .val (.int v9), .val (.int v10), .val (.int v11), .val (.int v12), .val (.int v13), .val (.int v14), .val (.ref b110), .val (.ref b124), .val (.long v20), .second, .val (.long v21), .second, .val (.int v23), .val (.int v25), .val (.int v27), .val (.int v29), .val (.int v31), .val (.int v36), .unset] [(.ref b110)])) _
      refine XS.bipush X173.here hx rfl (hb hby at_307) ?_
      show Steps p.tables e below (T173.setTop (mkF m 309 #[.val (.int p0), .val (.int p1), .val (.int p2), .val (.int p3), .val (.long q4), .second, .val (.long q5), .second, .val (.int v1), .val (.long v8), .second, .val (.int v9), .val (.int v10), .val (.int v11), .val (.int v12), .val (.int v13), .val (.int v14), .val (.ref b110), .val (.ref b124), .val (.long v20), .second, .val (.long v21), .second, .val (.int v23), .val (.int v25), .val (.int v27), .val (.int v29), .val (.int v31), .val (.int v36), .unset] [(.int (63 : Int32)), (.ref b110)])) _
      refine own_ldJ X173 hx hZ e173 F141_0n (j := (63 : Int32)) hin309_174 (g := (mkF m 309 #[.val (.int p0), .val (.int p1), .val (.int p2), .val (.int p3), .val (.long q4), .second, .val (.long q5), .second, .val (.int v1), .val (.long v8), .second, .val (.int v9), .val (.int v10), .val (.int v11), .val (.int v12), .val (.int v13), .val (.int v14), .val (.ref b110), .val (.ref b124), .val (.long v20), .second, .val (.long v21), .second, .val (.int v23), .val (.int v25), .val (.int v27), .val (.int v29), .val (.int v31), .val (.int v36), .unset] [(.int (63 : Int32)), (.ref b110)])) rfl rfl (hb hby at_309) _ ?_
      show Steps p.tables e below (T173.setTop (mkF m 310 #[.val (.int p0), .val (.int p1), .val (.int p2), .val (.int p3), .val (.long q4), .second, .val (.long q5), .second, .val (.int v1), .val (.long v8), .second, .val (.int v9), .val (.int v10), .val (.int v11), .val (.int v12), .val (.int v13), .val (.int v14), .val (.ref b110), .val (.ref b124), .val (.long v20), .second, .val (.long v21), .second, .val (.int v23), .val (.int v25), .val (.int v27), .val (.int v29), .val (.int v31), .val (.int v36), .unset] [(.long (v19 63))])) _
      refine XS.lconst X173.here hx rfl (hb hby at_310) ?_
      show Steps p.tables e below (T173.setTop (mkF m 311 #[.val (.int p0), .val (.int p1), .val (.int p2), .val (.int p3), .val (.long q4), .second, .val (.long q5), .second, .val (.int v1), .val (.long v8), .second, .val (.int v9), .val (.int v10), .val (.int v11), .val (.int v12), .val (.int v13), .val (.int v14), .val (.ref b110), .val (.ref b124), .val (.long v20), .second, .val (.long v21), .second, .val (.int v23), .val (.int v25), .val (.int v27), .val (.int v29), .val (.int v31), .val (.int v36), .unset] [(.long (0 : Int64)), (.long (v19 63))])) _
      refine XS.lcmp X173.here hx rfl (hb hby at_311) rfl ?_
      show Steps p.tables e below (T173.setTop (mkF m 312 #[.val (.int p0), .val (.int p1), .val (.int p2), .val (.int p3), .val (.long q4), .second, .val (.long q5), .second, .val (.int v1), .val (.long v8), .second, .val (.int v9), .val (.int v10), .val (.int v11), .val (.int v12), .val (.int v13), .val (.int v14), .val (.ref b110), .val (.ref b124), .val (.long v20), .second, .val (.long v21), .second, .val (.int v23), .val (.int v25), .val (.int v27), .val (.int v29), .val (.int v31), .val (.int v36), .unset] [(.int (lcmpW (v19 63) (0 : Int64)))])) _
      refine st177 _ ?_
      show Steps p.tables e below (T177.setTop (mkF m 320 #[.val (.int p0), .val (.int p1), .val (.int p2), .val (.int p3), .val (.long q4), .second, .val (.long q5), .second, .val (.int v1), .val (.long v8), .second, .val (.int v9), .val (.int v10), .val (.int v11), .val (.int v12), .val (.int v13), .val (.int v14), .val (.ref b110), .val (.ref b124), .val (.long v20), .second, .val (.long v21), .second, .val (.int v23), .val (.int v25), .val (.int v27), .val (.int v29), .val (.int v31), .val (.int v36), .unset] [(.int v38)])) _
      refine XS.istore X177.here hx rfl (hb hby at_320) rfl (l' := #[.val (.int p0), .val (.int p1), .val (.int p2), .val (.int p3), .val (.long q4), .second, .val (.long q5), .second, .val (.int v1), .val (.long v8), .second, .val (.int v9), .val (.int v10), .val (.int v11), .val (.int v12), .val (.int v13), .val (.int v14), .val (.ref b110), .val (.ref b124), .val (.long v20), .second, .val (.long v21), .second, .val (.int v23), .val (.int v25), .val (.int v27), .val (.int v29), .val (.int v31), .val (.int v36), .val (.int v38)]) rfl ?_
      show Steps p.tables e below (T177.setTop (mkF m 322 #[.val (.int p0), .val (.int p1), .val (.int p2), .val (.int p3), .val (.long q4), .second, .val (.long q5), .second, .val (.int v1), .val (.long v8), .second, .val (.int v9), .val (.int v10), .val (.int v11), .val (.int v12), .val (.int v13), .val (.int v14), .val (.ref b110), .val (.ref b124), .val (.long v20), .second, .val (.long v21), .second, .val (.int v23), .val (.int v25), .val (.int v27), .val (.int v29), .val (.int v31), .val (.int v36), .val (.int v38)] [])) _
      refine XS.iload X177.here hx rfl (hb hby at_322) rfl ?_
      show Steps p.tables e below (T177.setTop (mkF m 324 #[.val (.int p0), .val (.int p1), .val (.int p2), .val (.int p3), .val (.long q4), .second, .val (.long q5), .second, .val (.int v1), .val (.long v8), .second, .val (.int v9), .val (.int v10), .val (.int v11), .val (.int v12), .val (.int v13), .val (.int v14), .val (.ref b110), .val (.ref b124), .val (.long v20), .second, .val (.long v21), .second, .val (.int v23), .val (.int v25), .val (.int v27), .val (.int v29), .val (.int v31), .val (.int v36), .val (.int v38)] [(.int v23)])) _
      refine st198 _ ?_
      exact kt
    refine own_go hgo199 ?_
    have hz200 : v52 = 1 := own_leaf0 (p0 := p0) (p1 := p1) (p2 := p2) (p3 := p3) (q4 := q4) (q5 := q5) hv1 hv8 hv9 hv10 hv11 hv12 hv13 hv14 hv15 hv16 hv17 hv18 hv19 hv20 hv21 hv23 hv25 hv27 hv29 hv31 hv33 hv35 hv36 hv38 hv46 hv47 hv48 hv49 hv50 hv51 hv52 hc14_2
    exact own_retZ X198 hx Bd.returns Bd.notSynchronized (hb hby at_362) (by decide) (by decide) (Or.inr hz200) ⟨by rw [hz200], N198⟩
  · obtain ⟨v53, hv53⟩ : ∃ z : Int64, z = ((1 : Int64) <<< ((v1 - (1 : Int32)) &&& 0x3f).toInt64) := ⟨_, rfl⟩
    obtain ⟨v54, hv54⟩ : ∃ z : Int64, z = ((v53 + (1 : Int64)) + ((p1.toInt64) &&& (v53 - (1 : Int64)))) := ⟨_, rfl⟩
    obtain ⟨_, _, ⟨T201, L201, k201, n201⟩, -, X201, ⟨Lc201, hQ201, l201, y201, z201⟩, st201⟩ := Jvm.LawKit.callS X0 hx (y := (⟨"java/lang/Math", "min", "(JJ)J"⟩ : MethodName)) hown (mvT hZ (hw _ (List.mem_of_getElem? (i := 54) rfl))) (mvT hZ (hw _ (List.mem_of_getElem? (i := 55) rfl))) (mvT hZ (hw _ (List.mem_of_getElem? (i := 20) rfl))) (mvT hZ (hw _ (List.mem_of_getElem? (i := 56) rfl))) (by decide) (backOf (W := 0) (rm8 l Z a0 hw [] (2147483647 : Int64) v54 h0 n0 Z0 ) hZ (hw _ (List.mem_of_getElem? (i := 56) rfl)) (hw _ (List.mem_of_getElem? (i := 20) rfl)) (by decide) (by decide)) (g := (mkF m 51 #[.val (.int p0), .val (.int p1), .val (.int p2), .val (.int p3), .val (.long q4), .second, .val (.long q5), .second, .val (.int v1), .unset, .unset, .val (.long v53), .second, .unset, .unset, .unset, .unset, .unset, .unset, .unset, .unset, .unset, .unset, .unset, .unset, .unset, .unset, .unset, .unset, .unset] [(.long v54), (.long (2147483647 : Int64))])) rfl (by rw [hml]; rfl) (argsL := [(.long (2147483647 : Int64)), (.long v54)]) (rest := []) (lenOf pd4 rfl) rfl (by show 2 * 0 + _ ≤ _; exact Nat.le_of_eq rfl) (hb hby at_51) (fun _ _ => ⟨rfl, e0, (by decide : 0 + 0 ≤ _), (by decide : 0 + 0 ≤ _)⟩)
    dsimp only [Pt.U, Pt.locs, Pt.cells, Pt.slots] at X201 l201 y201 z201 st201 hQ201
    subst l201 y201 z201
    obtain ⟨rfl, N201q, e201⟩ := hQ201
    have N201 := Fr.app N0 N201q
    obtain ⟨v55, hv55⟩ : ∃ z : Int64, z = (own_r8 (2147483647 : Int64) v54) := ⟨_, rfl⟩
    obtain ⟨v56, hv56⟩ : ∃ z : Int32, z = (v55.toInt32) := ⟨_, rfl⟩
    have hnz65_202 : ¬ (v1 = (0 : Int32)) := by obtain ⟨n, h, h1⟩ := own_g1 hv1; exact own_nzI (by omega)
    obtain ⟨v57, hv57⟩ : ∃ z : Int32, z = ((64 : Int32) / v1) := ⟨_, rfl⟩
    obtain ⟨v58, hv58⟩ : ∃ z : Int32, z = ((1 : Int32) + (p2 &&& (63 : Int32))) := ⟨_, rfl⟩
    have hnz83_203 : ¬ (v56 = (0 : Int32)) := by obtain ⟨n, h, h1⟩ := own_g1 hv1; exact own_nzI (own_g3 h1 hc14_2 hv53 hv54 hv55 hv56).1
    obtain ⟨v59, hv59⟩ : ∃ z : Int32, z = ((1 : Int32) + ((p3 &&& (2147483647 : Int32)) % v56)) := ⟨_, rfl⟩
    have hnz93_204 : ¬ (v57 = (0 : Int32)) := by obtain ⟨n, h, h1⟩ := own_g1 hv1; exact own_nzI (by have q := (own_f5 h1 hv57); omega)
    obtain ⟨v60, hv60⟩ : ∃ z : Int32, z = ((v58 - (1 : Int32)) / v57) := ⟨_, rfl⟩
    have hnz102_205 : ¬ (v57 = (0 : Int32)) := by obtain ⟨n, h, h1⟩ := own_g1 hv1; exact own_nzI (by have q := (own_f5 h1 hv57); omega)
    obtain ⟨v61, hv61⟩ : ∃ z : Int32, z = (((v58 - (1 : Int32)) % v57) * v1) := ⟨_, rfl⟩
    obtain ⟨T206, h206, k206, X206, e206, E206, A206, st206⟩ := newP X201 hx hZ (hw _ (List.mem_of_getElem? (i := 1) rfl)) e201 (g := (mkF m 110 #[.val (.int p0), .val (.int p1), .val (.int p2), .val (.int p3), .val (.long q4), .second, .val (.long q5), .second, .val (.int v1), .val (.long v55), .second, .val (.int v56), .val (.int v57), .val (.int v58), .val (.int v59), .val (.int v60), .val (.int v61), .unset, .unset, .unset, .unset, .unset, .unset, .unset, .unset, .unset, .unset, .unset, .unset, .unset] [(.int (64 : Int32))])) rfl (hb hby at_110) rfl (by decide) (cap := 64) (by decide) (by decide) (by decide) (by decide)
    obtain ⟨b206, g206⟩ : ∃ z, z = h0.size := ⟨_, rfl⟩
    rw [← g206] at A206 st206
    have g_b206 : n0 ≤ b206 := Nat.le_trans Z0 (Nat.le_of_eq g206.symm)
    have sz_b206 : h0.size ≤ b206 := Nat.le_trans K0.1 (Nat.le_of_eq g206.symm)
    have Z207 : n0 ≤ h206.size := Nat.le_trans Z0 E206.1
    have K208 : Keep h0 h206 [] := K0.ext E206
    obtain ⟨v62, hv62⟩ : ∃ z : Nat → Int64, z = (fun _ => (0 : Int64)) := ⟨_, rfl⟩
    have F209 : own_AJ Z h206 b206 .long 64 v62 := by rw [hv62]; exact own_AJ.new A206 rfl (by decide)
    have hin120_210 : ¬ v60 < 0 ∧ v60.toNatClampNeg < 64 := by obtain ⟨n, h, h1⟩ := own_g1 hv1; have g := (own_g6 (own_g5 hv58) (own_f5 h1 hv57).2.1 hv60); exact own_ix g.1 (by omega)
    obtain ⟨T211, h211, X211, e211, W211, B211, st211⟩ := own_stJ X206 hx hZ e206 F209 (j := v60) (x := q4) hin120_210 (g := (mkF m 120 #[.val (.int p0), .val (.int p1), .val (.int p2), .val (.int p3), .val (.long q4), .second, .val (.long q5), .second, .val (.int v1), .val (.long v55), .second, .val (.int v56), .val (.int v57), .val (.int v58), .val (.int v59), .val (.int v60), .val (.int v61), .val (.ref b206), .unset, .unset, .unset, .unset, .unset, .unset, .unset, .unset, .unset, .unset, .unset, .unset] [(.long q4), (.int v60), (.ref b206)])) rfl rfl (hb hby at_120)
    obtain ⟨v63, hv63⟩ : ∃ z : Nat → Int64, z = (own_up v62 (v60.toNatClampNeg) q4) := ⟨_, rfl⟩
    have B211n : own_AJ Z h211 b206 .long 64 v63 := by rw [hv63]; exact B211
    have Z212 : n0 ≤ h211.size := Nat.le_trans Z207 (Keep.of_wr W211).1
    have K213 : Keep h0 h211 [] := K208.wr W211 (Or.inr sz_b206)
    have N214 := Fr.snoc X211 N201 g_b206
    obtain ⟨v64, hv64⟩ : ∃ z : Int32, z = (v60 + (1 : Int32)) := ⟨_, rfl⟩
    have hin129_215 : ¬ v64 < 0 ∧ v64.toNatClampNeg < 64 := by obtain ⟨n, h, h1⟩ := own_g1 hv1; have g := (own_g6 (own_g5 hv58) (own_f5 h1 hv57).2.1 hv60); have e := own_g8 g hv64; exact own_ix (by omega) (by omega)
    obtain ⟨T216, h216, X216, e216, W216, B216, st216⟩ := own_stJ X211 hx hZ e211 B211n (j := v64) (x := q5) hin129_215 (g := (mkF m 129 #[.val (.int p0), .val (.int p1), .val (.int p2), .val (.int p3), .val (.long q4), .second, .val (.long q5), .second, .val (.int v1), .val (.long v55), .second, .val (.int v56), .val (.int v57), .val (.int v58), .val (.int v59), .val (.int v60), .val (.int v61), .val (.ref b206), .unset, .unset, .unset, .unset, .unset, .unset, .unset, .unset, .unset, .unset, .unset, .unset] [(.long q5), (.int v64), (.ref b206)])) rfl rfl (hb hby at_129)
    obtain ⟨v65, hv65⟩ : ∃ z : Nat → Int64, z = (own_up v63 (v64.toNatClampNeg) q5) := ⟨_, rfl⟩
    have B216n : own_AJ Z h216 b206 .long 64 v65 := by rw [hv65]; exact B216
    have Z217 : n0 ≤ h216.size := Nat.le_trans Z212 (Keep.of_wr W216).1
    have K218 : Keep h0 h216 [] := K213.wr W216 (Or.inr sz_b206)
    have N219 := Fr.snoc X216 N214 g_b206
    obtain ⟨T220, h220, X220, e220, E220, A220, D220, -, st220⟩ := newO X216 hx hZ hown (hw _ (List.mem_of_getElem? (i := 2) rfl)) (hw _ (List.mem_of_getElem? (i := 3) rfl)) (hw _ (List.mem_of_getElem? (i := 4) rfl)) e216 (g := (mkF m 130 #[.val (.int p0), .val (.int p1), .val (.int p2), .val (.int p3), .val (.long q4), .second, .val (.long q5), .second, .val (.int v1), .val (.long v55), .second, .val (.int v56), .val (.int v57), .val (.int v58), .val (.int v59), .val (.int v60), .val (.int v61), .val (.ref b206), .unset, .unset, .unset, .unset, .unset, .unset, .unset, .unset, .unset, .unset, .unset, .unset] [])) rfl (hb hby at_130) (by decide) (by decide)
    obtain ⟨b220, g220⟩ : ∃ z, z = h216.size := ⟨_, rfl⟩
    rw [← g220] at A220 D220 st220
    have ne_b206_b220 : b206 ≠ b220 := Nat.ne_of_lt (Nat.lt_of_lt_of_le B216n.lt (Nat.le_of_eq g220.symm))
    have g_b220 : n0 ≤ b220 := Nat.le_trans Z217 (Nat.le_of_eq g220.symm)
    have sz_b220 : h0.size ≤ b220 := Nat.le_trans K218.1 (Nat.le_of_eq g220.symm)
    have F221 := B216n.ext E220
    have Z222 : n0 ≤ h220.size := Nat.le_trans Z217 E220.1
    have K223 : Keep h0 h220 [] := K218.ext E220
    have F224 : Fld Z h220 b220 "com/example/swapgraph/swapgraph/AllocationTable" "agents" "I" (.int (0 : Int32)) := D220 (Or.inr (hw _ (List.mem_of_getElem? (i := 12) rfl))) (ty := .int) (by decide)
    have F225 : Fld Z h220 b220 "com/example/swapgraph/swapgraph/AllocationTable" "bits" "I" (.int (0 : Int32)) := D220 (Or.inr (hw _ (List.mem_of_getElem? (i := 23) rfl))) (ty := .int) (by decide)
    have F226 : Fld Z h220 b220 "com/example/swapgraph/swapgraph/AllocationTable" "perWord" "I" (.int (0 : Int32)) := D220 (Or.inr (hw _ (List.mem_of_getElem? (i := 25) rfl))) (ty := .int) (by decide)
    have F227 : Fld Z h220 b220 "com/example/swapgraph/swapgraph/AllocationTable" "words" "I" (.int (0 : Int32)) := D220 (Or.inr (hw _ (List.mem_of_getElem? (i := 27) rfl))) (ty := .int) (by decide)
    have F228 : Fld Z h220 b220 "com/example/swapgraph/swapgraph/AllocationTable" "fieldMask" "J" (.long (0 : Int64)) := D220 (Or.inr (hw _ (List.mem_of_getElem? (i := 29) rfl))) (ty := .long) (by decide)
    have F229 : Fld Z h220 b220 "com/example/swapgraph/swapgraph/AllocationTable" "limit" "I" (.int (0 : Int32)) := D220 (Or.inr (hw _ (List.mem_of_getElem? (i := 36) rfl))) (ty := .int) (by decide)
    have F230 : Fld Z h220 b220 "com/example/swapgraph/swapgraph/AllocationTable" "packed" "[J" .null := D220 (Or.inl (hw _ (List.mem_of_getElem? (i := 38) rfl))) (ty := (.array .long)) (by decide)
    have F231 : Fld Z h220 b220 "com/example/swapgraph/swapgraph/AllocationTable" "slots" "[I" .null := D220 (Or.inl (hw _ (List.mem_of_getElem? (i := 41) rfl))) (ty := (.array .int)) (by decide)
    obtain ⟨_, _, ⟨T232, L232, k232, n232⟩, -, X232, ⟨Lc232, hQ232, l232, y232, z232⟩, st232⟩ := X220.specialBack hx (y := (⟨"com/example/swapgraph/swapgraph/AllocationTable", "<init>", "(II)V"⟩ : MethodName)) rfl hown (mvT hZ (hw _ (List.mem_of_getElem? (i := 5) rfl))) (mvT hZ (hw _ (List.mem_of_getElem? (i := 6) rfl))) (mvT hZ (hw _ (List.mem_of_getElem? (i := 7) rfl))) (by decide) (backOf (W := 1) (rm1 l Z a0 hw [] b220 (64 : Int32) v56 v1 v57 ((((64 : Int32) + v57) - (1 : Int32)) / v57) ((16 : Int32) * ((((64 : Int32) + v57) - (1 : Int32)) / v57)) (0 : Int32) (0 : Int32) (0 : Int32) (0 : Int32) (0 : Int64) (0 : Int32) .null .null h220 n0 Z222 (by obtain ⟨n, h, h1⟩ := own_g1 hv1; exact own_f4 h1 (own_g3 h1 hc14_2 hv53 hv54 hv55 hv56) : own_r4 (1 : Int32) ((32 : Int32) - (own_r3 (v56 - (1 : Int32)))) = v1) (hv57.symm : ((64 : Int32) / v1) = v57) (rfl : ((((64 : Int32) + v57) - (1 : Int32)) / v57) = ((((64 : Int32) + v57) - (1 : Int32)) / v57)) (rfl : ((16 : Int32) * ((((64 : Int32) + v57) - (1 : Int32)) / v57)) = ((16 : Int32) * ((((64 : Int32) + v57) - (1 : Int32)) / v57))) (by obtain ⟨n, h, h1⟩ := own_g1 hv1; exact own_nzI (by omega) : ¬ (v1 = (0 : Int32))) (by obtain ⟨n, h, h1⟩ := own_g1 hv1; exact own_nzI (by have q := (own_f5 h1 hv57); omega) : ¬ (v57 = (0 : Int32))) (by obtain ⟨n, h, h1⟩ := own_g1 hv1; exact own_nzI (own_g10 (by have q := (own_f5 h1 hv57); omega)).1 : ¬ (((((64 : Int32) + v57) - (1 : Int32)) / v57) = (0 : Int32))) (by obtain ⟨n, h, h1⟩ := own_g1 hv1; exact (own_g11 (by have q := (own_f5 h1 hv57); omega)).1 : ¬ ((16 : Int32) * ((((64 : Int32) + v57) - (1 : Int32)) / v57)) < 0) (by obtain ⟨n, h, h1⟩ := own_g1 hv1; exact (own_g11 (by have q := (own_f5 h1 hv57); omega)).2 : ((16 : Int32) * ((((64 : Int32) + v57) - (1 : Int32)) / v57)).toNatClampNeg ≤ 512) A220 F224 F225 F226 F227 F228 F229 F230 F231 g_b220) hZ (hw _ (List.mem_of_getElem? (i := 7) rfl)) (hw _ (List.mem_of_getElem? (i := 4) rfl)) (by decide) (by decide)) (g := (mkF m 138 #[.val (.int p0), .val (.int p1), .val (.int p2), .val (.int p3), .val (.long q4), .second, .val (.long q5), .second, .val (.int v1), .val (.long v55), .second, .val (.int v56), .val (.int v57), .val (.int v58), .val (.int v59), .val (.int v60), .val (.int v61), .val (.ref b206), .unset, .unset, .unset, .unset, .unset, .unset, .unset, .unset, .unset, .unset, .unset, .unset] [(.int v56), (.int (64 : Int32)), (.ref b220), (.ref b220)])) rfl (by rw [hml]; rfl) (Steps.refl _) (a := b220) (argsL := [(.int (64 : Int32)), (.int v56)]) (rest := [(.ref b220)]) (lenOf pd5 rfl) rfl (by show 2 * 0 + _ ≤ _; exact Nat.le_of_eq rfl) (hb hby at_138) (fun _ _ => ⟨rfl, e220, (by decide : 2 + 2 ≤ _), (by decide : 73 + 544 ≤ _)⟩)
    dsimp only [Pt.U, Pt.locs, Pt.cells, Pt.slots] at X232 l232 y232 z232 st232 hQ232
    subst l232 y232 z232
    obtain ⟨rfl, N232q, K232q, F232_0, F232_1, F232_2, F232_3⟩ := hQ232
    have F233 := F221.keep K232q (ninS ne_b206_b220 nin0)
    have F234 := A220.keep K232q
    have Z235 : n0 ≤ T232.heap.size := Nat.le_trans Z222 K232q.1
    have K236 : Keep h0 T232.heap [] := K223.trans K232q (allS (Or.inr sz_b220) all0)
    have N232 := Fr.app N219 N232q
    obtain ⟨cq237, kq237, q237a, q237b, q237c⟩ := isOf hZ (rfl : T232.heap = T232.heap) F232_0
    obtain ⟨_, _, ⟨T237, L237, k237, n237⟩, -, X237, ⟨Lc237, hQ237, l237, y237, z237⟩, st237⟩ := X232.virtualBack hx (y := (⟨"com/example/swapgraph/swapgraph/AllocationTable", "set", "([JII)V"⟩ : MethodName)) (z := (⟨"com/example/swapgraph/swapgraph/AllocationTable", "set", "([JII)V"⟩ : MethodName)) hown (mvT hZ (hw _ (List.mem_of_getElem? (i := 42) rfl))) (mvT hZ (hw _ (List.mem_of_getElem? (i := 43) rfl))) (notFace_of_selects (args := #[]) (mvT hZ (hw _ (List.mem_of_getElem? (i := 45) rfl)))) (mvT hZ (hw _ (List.mem_of_getElem? (i := 45) rfl))) (mvT hZ (hw _ (List.mem_of_getElem? (i := 44) rfl))) (by decide) (backOf (W := 0) (rm6 l Z a0 hw [] b220 b206 v58 v59 v65 v57 v1 (((1 : Int64) <<< (v1 &&& 0x3f).toInt64) - (1 : Int64)) (T232.heap) n0 Z235 F233 F232_2 (by obtain ⟨n, h, h1⟩ := own_g1 hv1; exact own_nzI (by have q := (own_f5 h1 hv57); omega) : ¬ (v57 = (0 : Int32))) (by obtain ⟨n, h, h1⟩ := own_g1 hv1; have g := (own_g6 (own_g5 hv58) (own_f5 h1 hv57).2.1 rfl); exact own_ix g.1 (by omega) : ¬ ((v58 - (1 : Int32)) / v57) < 0 ∧ ((v58 - (1 : Int32)) / v57).toNatClampNeg < 64) F232_1 F232_3 (Ne.symm ne_b206_b220) g_b206) hZ (hw _ (List.mem_of_getElem? (i := 46) rfl)) (hw _ (List.mem_of_getElem? (i := 4) rfl)) (by decide) (by decide)) q237a q237c (g := (mkF m 151 #[.val (.int p0), .val (.int p1), .val (.int p2), .val (.int p3), .val (.long q4), .second, .val (.long q5), .second, .val (.int v1), .val (.long v55), .second, .val (.int v56), .val (.int v57), .val (.int v58), .val (.int v59), .val (.int v60), .val (.int v61), .val (.ref b206), .val (.ref b220), .unset, .unset, .unset, .unset, .unset, .unset, .unset, .unset, .unset, .unset, .unset] [(.int v59), (.int v58), (.ref b206), (.ref b220)])) rfl (by rw [hml]; rfl) (Steps.refl _) (argsL := [(.ref b206), (.int v58), (.int v59)]) (rest := []) (lenOf pd6 rfl) rfl (by show 2 * 0 + _ ≤ _; exact Nat.le_of_eq rfl) (hb hby at_151) (fun _ _ => ⟨rfl, (rfl : T232.heap = T232.heap), (by decide : 4 + 0 ≤ _), (by decide : 617 + 0 ≤ _)⟩)
    dsimp only [Pt.U, Pt.locs, Pt.cells, Pt.slots] at X237 l237 y237 z237 st237 hQ237
    subst l237 y237 z237
    obtain ⟨rfl, N237q, K237q, F237_0⟩ := hQ237
    have F238 := F232_0.keep K237q
    have F239 := F232_1.keep K237q (ninS (Ne.symm ne_b206_b220) nin0)
    have F240 := F232_2.keep K237q (ninS (Ne.symm ne_b206_b220) nin0)
    have F241 := F232_3.keep K237q (ninS (Ne.symm ne_b206_b220) nin0)
    have Z242 : n0 ≤ T237.heap.size := Nat.le_trans Z235 K237q.1
    have K243 : Keep h0 T237.heap [] := K236.trans K237q (allS (Or.inr sz_b206) all0)
    obtain ⟨v66, hv66⟩ : ∃ z : Nat → Int64, z = (own_up v65 (((v58 - (1 : Int32)) / v57).toNatClampNeg) (((v65 ((v58 - (1 : Int32)) / v57).toNatClampNeg) &&& (((((1 : Int64) <<< (v1 &&& 0x3f).toInt64) - (1 : Int64)) <<< ((((v58 - (1 : Int32)) % v57) * v1) &&& 0x3f).toInt64) ^^^ (-1 : Int64))) ||| (((v59 - (1 : Int32)).toInt64) <<< ((((v58 - (1 : Int32)) % v57) * v1) &&& 0x3f).toInt64))) := ⟨_, rfl⟩
    have F237_0n : own_AJ Z T237.heap b206 .long 64 v66 := by rw [hv66]; exact F237_0
    have N237 := Fr.app N232 N237q
    obtain ⟨v67, hv67⟩ : ∃ z : Int64, z = (((1 : Int64) <<< (v1 &&& 0x3f).toInt64) - (1 : Int64)) := ⟨_, rfl⟩
    have hin166_244 : ¬ v60 < 0 ∧ v60.toNatClampNeg < 64 := by obtain ⟨n, h, h1⟩ := own_g1 hv1; have g := (own_g6 (own_g5 hv58) (own_f5 h1 hv57).2.1 hv60); exact own_ix g.1 (by omega)
    obtain ⟨v68, hv68⟩ : ∃ z : Int64, z = ((v66 v60.toNatClampNeg) ^^^ q4) := ⟨_, rfl⟩
    obtain ⟨v70, hv70⟩ : ∃ z : Int32, z = (if (v68 &&& (((1 : Int64) <<< (v61 &&& 0x3f).toInt64) - (1 : Int64))) = (0 : Int64) then (1 : Int32) else (0 : Int32)) := ⟨_, rfl⟩
    obtain ⟨T247, lc247, X247, N247, e247, st247⟩ := own_mrg (n0 := n0) (h := T237.heap) (g := (mkF m 183 #[.val (.int p0), .val (.int p1), .val (.int p2), .val (.int p3), .val (.long q4), .second, .val (.long q5), .second, .val (.int v1), .val (.long v55), .second, .val (.int v56), .val (.int v57), .val (.int v58), .val (.int v59), .val (.int v60), .val (.int v61), .val (.ref b206), .val (.ref b220), .val (.long v67), .second, .val (.long v68), .second, .unset, .unset, .unset, .unset, .unset, .unset, .unset] [(.int (lcmpW (v68 &&& (((1 : Int64) <<< (v61 &&& 0x3f).toInt64) - (1 : Int64))) (0 : Int64)))])) (g' := (mkF m 191 #[.val (.int p0), .val (.int p1), .val (.int p2), .val (.int p3), .val (.long q4), .second, .val (.long q5), .second, .val (.int v1), .val (.long v55), .second, .val (.int v56), .val (.int v57), .val (.int v58), .val (.int v59), .val (.int v60), .val (.int v61), .val (.ref b206), .val (.ref b220), .val (.long v67), .second, .val (.long v68), .second, .unset, .unset, .unset, .unset, .unset, .unset, .unset] [(.int v70)])) X237 (by
      by_cases hc183_69 : (v68 &&& (((1 : Int64) <<< (v61 &&& 0x3f).toInt64) - (1 : Int64))) = (0 : Int64)
      · have hgo245 : ∀ t, Steps p.tables e below (T237.setTop (mkF m 191 #[.val (.int p0), .val (.int p1), .val (.int p2), .val (.int p3), .val (.long q4), .second, .val (.long q5), .second, .val (.int v1), .val (.long v55), .second, .val (.int v56), .val (.int v57), .val (.int v58), .val (.int v59), .val (.int v60), .val (.int v61), .val (.ref b206), .val (.ref b220), .val (.long v67), .second, .val (.long v68), .second, .unset, .unset, .unset, .unset, .unset, .unset, .unset] [(.int (1 : Int32))])) t → Steps p.tables e below (T237.setTop (mkF m 183 #[.val (.int p0), .val (.int p1), .val (.int p2), .val (.int p3), .val (.long q4), .second, .val (.long q5), .second, .val (.int v1), .val (.long v55), .second, .val (.int v56), .val (.int v57), .val (.int v58), .val (.int v59), .val (.int v60), .val (.int v61), .val (.ref b206), .val (.ref b220), .val (.long v67), .second, .val (.long v68), .second, .unset, .unset, .unset, .unset, .unset, .unset, .unset] [(.int (lcmpW (v68 &&& (((1 : Int64) <<< (v61 &&& 0x3f).toInt64) - (1 : Int64))) (0 : Int64)))])) t := by
          intro t kt
          show Steps p.tables e below (T237.setTop (mkF m 183 #[.val (.int p0), .val (.int p1), .val (.int p2), .val (.int p3), .val (.long q4), .second, .val (.long q5), .second, .val (.int v1), .val (.long v55), .second, .val (.int v56), .val (.int v57), .val (.int v58), .val (.int v59), .val (.int v60), .val (.int v61), .val (.ref b206), .val (.ref b220), .val (.long v67), .second, .val (.long v68), .second, .unset, .unset, .unset, .unset, .unset, .unset, .unset] [(.int (lcmpW (v68 &&& (((1 : Int64) <<< (v61 &&& 0x3f).toInt64) - (1 : Int64))) (0 : Int64)))])) _
          refine XS.ifNo X237.here hx rfl (hb hby at_183) rfl ((if0 _ _).trans (teq (own_lc_eq hc183_69)).2) ?_
          show Steps p.tables e below (T237.setTop (mkF m 186 #[.val (.int p0), .val (.int p1), .val (.int p2), .val (.int p3), .val (.long q4), .second, .val (.long q5), .second, .val (.int v1), .val (.long v55), .second, .val (.int v56), .val (.int v57), .val (.int v58), .val (.int v59), .val (.int v60), .val (.int v61), .val (.ref b206), .val (.ref b220), .val (.long v67), .second, .val (.long v68), .second, .unset, .unset, .unset, .unset, .unset, .unset, .unset] [])) _
          refine XS.iconst X237.here hx rfl (hb hby at_186) ?_
          show Steps p.tables e below (T237.setTop (mkF m 187 #[.val (.int p0), .val (.int p1), .val (.int p2), .val (.int p3), .val (.long q4), .second, .val (.long q5), .second, .val (.int v1), .val (.long v55), .second, .val (.int v56), .val (.int v57), .val (.int v58), .val (.int v59), .val (.int v60), .val (.int v61), .val (.ref b206), .val (.ref b220), .val (.long v67), .second, .val (.long v68), .second, .unset, .unset, .unset, .unset, .unset, .unset, .unset] [(.int (1 : Int32))])) _
          refine XS.goto X237.here hx rfl (pc0 := 187) (pc' := 191) rfl (hb hby at_187) (by decide) (by decide) ?_
          exact kt
        refine own_arm hgo245 ?_
        exact own_armEnd X237 N237 (rfl : T237.heap = T237.heap) (by rw [hv70.trans (if_pos hc183_69)])
      · have hgo246 : ∀ t, Steps p.tables e below (T237.setTop (mkF m 191 #[.val (.int p0), .val (.int p1), .val (.int p2), .val (.int p3), .val (.long q4), .second, .val (.long q5), .second, .val (.int v1), .val (.long v55), .second, .val (.int v56), .val (.int v57), .val (.int v58), .val (.int v59), .val (.int v60), .val (.int v61), .val (.ref b206), .val (.ref b220), .val (.long v67), .second, .val (.long v68), .second, .unset, .unset, .unset, .unset, .unset, .unset, .unset] [(.int (0 : Int32))])) t → Steps p.tables e below (T237.setTop (mkF m 183 #[.val (.int p0), .val (.int p1), .val (.int p2), .val (.int p3), .val (.long q4), .second, .val (.long q5), .second, .val (.int v1), .val (.long v55), .second, .val (.int v56), .val (.int v57), .val (.int v58), .val (.int v59), .val (.int v60), .val (.int v61), .val (.ref b206), .val (.ref b220), .val (.long v67), .second, .val (.long v68), .second, .unset, .unset, .unset, .unset, .unset, .unset, .unset] [(.int (lcmpW (v68 &&& (((1 : Int64) <<< (v61 &&& 0x3f).toInt64) - (1 : Int64))) (0 : Int64)))])) t := by
          intro t kt
          show Steps p.tables e below (T237.setTop (mkF m 183 #[.val (.int p0), .val (.int p1), .val (.int p2), .val (.int p3), .val (.long q4), .second, .val (.long q5), .second, .val (.int v1), .val (.long v55), .second, .val (.int v56), .val (.int v57), .val (.int v58), .val (.int v59), .val (.int v60), .val (.int v61), .val (.ref b206), .val (.ref b220), .val (.long v67), .second, .val (.long v68), .second, .unset, .unset, .unset, .unset, .unset, .unset, .unset] [(.int (lcmpW (v68 &&& (((1 : Int64) <<< (v61 &&& 0x3f).toInt64) - (1 : Int64))) (0 : Int64)))])) _
          refine XS.ifYes X237.here hx rfl (pc0 := 183) (pc' := 190) rfl (hb hby at_183) rfl ((if0 _ _).trans (feq (own_lc_neq hc183_69)).2) (by decide) (by decide) ?_
          show Steps p.tables e below (T237.setTop (mkF m 190 #[.val (.int p0), .val (.int p1), .val (.int p2), .val (.int p3), .val (.long q4), .second, .val (.long q5), .second, .val (.int v1), .val (.long v55), .second, .val (.int v56), .val (.int v57), .val (.int v58), .val (.int v59), .val (.int v60), .val (.int v61), .val (.ref b206), .val (.ref b220), .val (.long v67), .second, .val (.long v68), .second, .unset, .unset, .unset, .unset, .unset, .unset, .unset] [])) _
          refine XS.iconst X237.here hx rfl (hb hby at_190) ?_
          exact kt
        refine own_arm hgo246 ?_
        exact own_armEnd X237 N237 (rfl : T237.heap = T237.heap) (by rw [hv70.trans (if_neg hc183_69)]))
    obtain ⟨v72, hv72⟩ : ∃ z : Int32, z = (if ((((v68.toUInt64 >>> (v61 &&& 0x3f).toInt64.toUInt64).toInt64).toUInt64 >>> (v1 &&& 0x3f).toInt64.toUInt64).toInt64) = (0 : Int64) then (1 : Int32) else (0 : Int32)) := ⟨_, rfl⟩
    obtain ⟨T250, lc250, X250, N250, e250, st250⟩ := own_mrg (n0 := n0) (h := T237.heap) (g := (mkF m 203 #[.val (.int p0), .val (.int p1), .val (.int p2), .val (.int p3), .val (.long q4), .second, .val (.long q5), .second, .val (.int v1), .val (.long v55), .second, .val (.int v56), .val (.int v57), .val (.int v58), .val (.int v59), .val (.int v60), .val (.int v61), .val (.ref b206), .val (.ref b220), .val (.long v67), .second, .val (.long v68), .second, .val (.int v70), .unset, .unset, .unset, .unset, .unset, .unset] [(.int (lcmpW ((((v68.toUInt64 >>> (v61 &&& 0x3f).toInt64.toUInt64).toInt64).toUInt64 >>> (v1 &&& 0x3f).toInt64.toUInt64).toInt64) (0 : Int64)))])) (g' := (mkF m 211 #[.val (.int p0), .val (.int p1), .val (.int p2), .val (.int p3), .val (.long q4), .second, .val (.long q5), .second, .val (.int v1), .val (.long v55), .second, .val (.int v56), .val (.int v57), .val (.int v58), .val (.int v59), .val (.int v60), .val (.int v61), .val (.ref b206), .val (.ref b220), .val (.long v67), .second, .val (.long v68), .second, .val (.int v70), .unset, .unset, .unset, .unset, .unset, .unset] [(.int v72)])) X247 (by
      by_cases hc203_71 : ((((v68.toUInt64 >>> (v61 &&& 0x3f).toInt64.toUInt64).toInt64).toUInt64 >>> (v1 &&& 0x3f).toInt64.toUInt64).toInt64) = (0 : Int64)
      · have hgo248 : ∀ t, Steps p.tables e below (T247.setTop (mkF m 211 #[.val (.int p0), .val (.int p1), .val (.int p2), .val (.int p3), .val (.long q4), .second, .val (.long q5), .second, .val (.int v1), .val (.long v55), .second, .val (.int v56), .val (.int v57), .val (.int v58), .val (.int v59), .val (.int v60), .val (.int v61), .val (.ref b206), .val (.ref b220), .val (.long v67), .second, .val (.long v68), .second, .val (.int v70), .unset, .unset, .unset, .unset, .unset, .unset] [(.int (1 : Int32))])) t → Steps p.tables e below (T247.setTop (mkF m 203 #[.val (.int p0), .val (.int p1), .val (.int p2), .val (.int p3), .val (.long q4), .second, .val (.long q5), .second, .val (.int v1), .val (.long v55), .second, .val (.int v56), .val (.int v57), .val (.int v58), .val (.int v59), .val (.int v60), .val (.int v61), .val (.ref b206), .val (.ref b220), .val (.long v67), .second, .val (.long v68), .second, .val (.int v70), .unset, .unset, .unset, .unset, .unset, .unset] [(.int (lcmpW ((((v68.toUInt64 >>> (v61 &&& 0x3f).toInt64.toUInt64).toInt64).toUInt64 >>> (v1 &&& 0x3f).toInt64.toUInt64).toInt64) (0 : Int64)))])) t := by
          intro t kt
          show Steps p.tables e below (T247.setTop (mkF m 203 #[.val (.int p0), .val (.int p1), .val (.int p2), .val (.int p3), .val (.long q4), .second, .val (.long q5), .second, .val (.int v1), .val (.long v55), .second, .val (.int v56), .val (.int v57), .val (.int v58), .val (.int v59), .val (.int v60), .val (.int v61), .val (.ref b206), .val (.ref b220), .val (.long v67), .second, .val (.long v68), .second, .val (.int v70), .unset, .unset, .unset, .unset, .unset, .unset] [(.int (lcmpW ((((v68.toUInt64 >>> (v61 &&& 0x3f).toInt64.toUInt64).toInt64).toUInt64 >>> (v1 &&& 0x3f).toInt64.toUInt64).toInt64) (0 : Int64)))])) _
          refine XS.ifNo X247.here hx rfl (hb hby at_203) rfl ((if0 _ _).trans (teq (own_lc_eq hc203_71)).2) ?_
          show Steps p.tables e below (T247.setTop (mkF m 206 #[.val (.int p0), .val (.int p1), .val (.int p2), .val (.int p3), .val (.long q4), .second, .val (.long q5), .second, .val (.int v1), .val (.long v55), .second, .val (.int v56), .val (.int v57), .val (.int v58), .val (.int v59), .val (.int v60), .val (.int v61), .val (.ref b206), .val (.ref b220), .val (.long v67), .second, .val (.long v68), .second, .val (.int v70), .unset, .unset, .unset, .unset, .unset, .unset] [])) _
          refine XS.iconst X247.here hx rfl (hb hby at_206) ?_
          show Steps p.tables e below (T247.setTop (mkF m 207 #[.val (.int p0), .val (.int p1), .val (.int p2), .val (.int p3), .val (.long q4), .second, .val (.long q5), .second, .val (.int v1), .val (.long v55), .second, .val (.int v56), .val (.int v57), .val (.int v58), .val (.int v59), .val (.int v60), .val (.int v61), .val (.ref b206), .val (.ref b220), .val (.long v67), .second, .val (.long v68), .second, .val (.int v70), .unset, .unset, .unset, .unset, .unset, .unset] [(.int (1 : Int32))])) _
          refine XS.goto X247.here hx rfl (pc0 := 207) (pc' := 211) rfl (hb hby at_207) (by decide) (by decide) ?_
          exact kt
        refine own_arm hgo248 ?_
        exact own_armEnd X247 N247 e247 (by rw [hv72.trans (if_pos hc203_71)])
      · have hgo249 : ∀ t, Steps p.tables e below (T247.setTop (mkF m 211 #[.val (.int p0), .val (.int p1), .val (.int p2), .val (.int p3), .val (.long q4), .second, .val (.long q5), .second, .val (.int v1), .val (.long v55), .second, .val (.int v56), .val (.int v57), .val (.int v58), .val (.int v59), .val (.int v60), .val (.int v61), .val (.ref b206), .val (.ref b220), .val (.long v67), .second, .val (.long v68), .second, .val (.int v70), .unset, .unset, .unset, .unset, .unset, .unset] [(.int (0 : Int32))])) t → Steps p.tables e below (T247.setTop (mkF m 203 #[.val (.int p0), .val (.int p1), .val (.int p2), .val (.int p3), .val (.long q4), .second, .val (.long q5), .second, .val (.int v1), .val (.long v55), .second, .val (.int v56), .val (.int v57), .val (.int v58), .val (.int v59), .val (.int v60), .val (.int v61), .val (.ref b206), .val (.ref b220), .val (.long v67), .second, .val (.long v68), .second, .val (.int v70), .unset, .unset, .unset, .unset, .unset, .unset] [(.int (lcmpW ((((v68.toUInt64 >>> (v61 &&& 0x3f).toInt64.toUInt64).toInt64).toUInt64 >>> (v1 &&& 0x3f).toInt64.toUInt64).toInt64) (0 : Int64)))])) t := by
          intro t kt
          show Steps p.tables e below (T247.setTop (mkF m 203 #[.val (.int p0), .val (.int p1), .val (.int p2), .val (.int p3), .val (.long q4), .second, .val (.long q5), .second, .val (.int v1), .val (.long v55), .second, .val (.int v56), .val (.int v57), .val (.int v58), .val (.int v59), .val (.int v60), .val (.int v61), .val (.ref b206), .val (.ref b220), .val (.long v67), .second, .val (.long v68), .second, .val (.int v70), .unset, .unset, .unset, .unset, .unset, .unset] [(.int (lcmpW ((((v68.toUInt64 >>> (v61 &&& 0x3f).toInt64.toUInt64).toInt64).toUInt64 >>> (v1 &&& 0x3f).toInt64.toUInt64).toInt64) (0 : Int64)))])) _
          refine XS.ifYes X247.here hx rfl (pc0 := 203) (pc' := 210) rfl (hb hby at_203) rfl ((if0 _ _).trans (feq (own_lc_neq hc203_71)).2) (by decide) (by decide) ?_
          show Steps p.tables e below (T247.setTop (mkF m 210 #[.val (.int p0), .val (.int p1), .val (.int p2), .val (.int p3), .val (.long q4), .second, .val (.long q5), .second, .val (.int v1), .val (.long v55), .second, .val (.int v56), .val (.int v57), .val (.int v58), .val (.int v59), .val (.int v60), .val (.int v61), .val (.ref b206), .val (.ref b220), .val (.long v67), .second, .val (.long v68), .second, .val (.int v70), .unset, .unset, .unset, .unset, .unset, .unset] [])) _
          refine XS.iconst X247.here hx rfl (hb hby at_210) ?_
          exact kt
        refine own_arm hgo249 ?_
        exact own_armEnd X247 N247 e247 (by rw [hv72.trans (if_neg hc203_71)]))
    have hin217_251 : ¬ v60 < 0 ∧ v60.toNatClampNeg < 64 := by obtain ⟨n, h, h1⟩ := own_g1 hv1; have g := (own_g6 (own_g5 hv58) (own_f5 h1 hv57).2.1 hv60); exact own_ix g.1 (by omega)
    obtain ⟨v74, hv74⟩ : ∃ z : Int32, z = (if ((((v66 v60.toNatClampNeg).toUInt64 >>> (v61 &&& 0x3f).toInt64.toUInt64).toInt64) &&& v67) = ((v59 - (1 : Int32)).toInt64) then (1 : Int32) else (0 : Int32)) := ⟨_, rfl⟩
    obtain ⟨T254, lc254, X254, N254, e254, st254⟩ := own_mrg (n0 := n0) (h := T237.heap) (g := (mkF m 230 #[.val (.int p0), .val (.int p1), .val (.int p2), .val (.int p3), .val (.long q4), .second, .val (.long q5), .second, .val (.int v1), .val (.long v55), .second, .val (.int v56), .val (.int v57), .val (.int v58), .val (.int v59), .val (.int v60), .val (.int v61), .val (.ref b206), .val (.ref b220), .val (.long v67), .second, .val (.long v68), .second, .val (.int v70), .val (.int v72), .unset, .unset, .unset, .unset, .unset] [(.int (lcmpW ((((v66 v60.toNatClampNeg).toUInt64 >>> (v61 &&& 0x3f).toInt64.toUInt64).toInt64) &&& v67) ((v59 - (1 : Int32)).toInt64)))])) (g' := (mkF m 238 #[.val (.int p0), .val (.int p1), .val (.int p2), .val (.int p3), .val (.long q4), .second, .val (.long q5), .second, .val (.int v1), .val (.long v55), .second, .val (.int v56), .val (.int v57), .val (.int v58), .val (.int v59), .val (.int v60), .val (.int v61), .val (.ref b206), .val (.ref b220), .val (.long v67), .second, .val (.long v68), .second, .val (.int v70), .val (.int v72), .unset, .unset, .unset, .unset, .unset] [(.int v74)])) X250 (by
      by_cases hc230_73 : ((((v66 v60.toNatClampNeg).toUInt64 >>> (v61 &&& 0x3f).toInt64.toUInt64).toInt64) &&& v67) = ((v59 - (1 : Int32)).toInt64)
      · have hgo252 : ∀ t, Steps p.tables e below (T250.setTop (mkF m 238 #[.val (.int p0), .val (.int p1), .val (.int p2), .val (.int p3), .val (.long q4), .second, .val (.long q5), .second, .val (.int v1), .val (.long v55), .second, .val (.int v56), .val (.int v57), .val (.int v58), .val (.int v59), .val (.int v60), .val (.int v61), .val (.ref b206), .val (.ref b220), .val (.long v67), .second, .val (.long v68), .second, .val (.int v70), .val (.int v72), .unset, .unset, .unset, .unset, .unset] [(.int (1 : Int32))])) t → Steps p.tables e below (T250.setTop (mkF m 230 #[.val (.int p0), .val (.int p1), .val (.int p2), .val (.int p3), .val (.long q4), .second, .val (.long q5), .second, .val (.int v1), .val (.long v55), .second, .val (.int v56), .val (.int v57), .val (.int v58), .val (.int v59), .val (.int v60), .val (.int v61), .val (.ref b206), .val (.ref b220), .val (.long v67), .second, .val (.long v68), .second, .val (.int v70), .val (.int v72), .unset, .unset, .unset, .unset, .unset] [(.int (lcmpW ((((v66 v60.toNatClampNeg).toUInt64 >>> (v61 &&& 0x3f).toInt64.toUInt64).toInt64) &&& v67) ((v59 - (1 : Int32)).toInt64)))])) t := by
          intro t kt
          show Steps p.tables e below (T250.setTop (mkF m 230 #[.val (.int p0), .val (.int p1), .val (.int p2), .val (.int p3), .val (.long q4), .second, .val (.long q5), .second, .val (.int v1), .val (.long v55), .second, .val (.int v56), .val (.int v57), .val (.int v58), .val (.int v59), .val (.int v60), .val (.int v61), .val (.ref b206), .val (.ref b220), .val (.long v67), .second, .val (.long v68), .second, .val (.int v70), .val (.int v72), .unset, .unset, .unset, .unset, .unset] [(.int (lcmpW ((((v66 v60.toNatClampNeg).toUInt64 >>> (v61 &&& 0x3f).toInt64.toUInt64).toInt64) &&& v67) ((v59 - (1 : Int32)).toInt64)))])) _
          refine XS.ifNo X250.here hx rfl (hb hby at_230) rfl ((if0 _ _).trans (teq (own_lc_eq hc230_73)).2) ?_
          show Steps p.tables e below (T250.setTop (mkF m 233 #[.val (.int p0), .val (.int p1), .val (.int p2), .val (.int p3), .val (.long q4), .second, .val (.long q5), .second, .val (.int v1), .val (.long v55), .second, .val (.int v56), .val (.int v57), .val (.int v58), .val (.int v59), .val (.int v60), .val (.int v61), .val (.ref b206), .val (.ref b220), .val (.long v67), .second, .val (.long v68), .second, .val (.int v70), .val (.int v72), .unset, .unset, .unset, .unset, .unset] [])) _
          refine XS.iconst X250.here hx rfl (hb hby at_233) ?_
          show Steps p.tables e below (T250.setTop (mkF m 234 #[.val (.int p0), .val (.int p1), .val (.int p2), .val (.int p3), .val (.long q4), .second, .val (.long q5), .second, .val (.int v1), .val (.long v55), .second, .val (.int v56), .val (.int v57), .val (.int v58), .val (.int v59), .val (.int v60), .val (.int v61), .val (.ref b206), .val (.ref b220), .val (.long v67), .second, .val (.long v68), .second, .val (.int v70), .val (.int v72), .unset, .unset, .unset, .unset, .unset] [(.int (1 : Int32))])) _
          refine XS.goto X250.here hx rfl (pc0 := 234) (pc' := 238) rfl (hb hby at_234) (by decide) (by decide) ?_
          exact kt
        refine own_arm hgo252 ?_
        exact own_armEnd X250 N250 e250 (by rw [hv74.trans (if_pos hc230_73)])
      · have hgo253 : ∀ t, Steps p.tables e below (T250.setTop (mkF m 238 #[.val (.int p0), .val (.int p1), .val (.int p2), .val (.int p3), .val (.long q4), .second, .val (.long q5), .second, .val (.int v1), .val (.long v55), .second, .val (.int v56), .val (.int v57), .val (.int v58), .val (.int v59), .val (.int v60), .val (.int v61), .val (.ref b206), .val (.ref b220), .val (.long v67), .second, .val (.long v68), .second, .val (.int v70), .val (.int v72), .unset, .unset, .unset, .unset, .unset] [(.int (0 : Int32))])) t → Steps p.tables e below (T250.setTop (mkF m 230 #[.val (.int p0), .val (.int p1), .val (.int p2), .val (.int p3), .val (.long q4), .second, .val (.long q5), .second, .val (.int v1), .val (.long v55), .second, .val (.int v56), .val (.int v57), .val (.int v58), .val (.int v59), .val (.int v60), .val (.int v61), .val (.ref b206), .val (.ref b220), .val (.long v67), .second, .val (.long v68), .second, .val (.int v70), .val (.int v72), .unset, .unset, .unset, .unset, .unset] [(.int (lcmpW ((((v66 v60.toNatClampNeg).toUInt64 >>> (v61 &&& 0x3f).toInt64.toUInt64).toInt64) &&& v67) ((v59 - (1 : Int32)).toInt64)))])) t := by
          intro t kt
          show Steps p.tables e below (T250.setTop (mkF m 230 #[.val (.int p0), .val (.int p1), .val (.int p2), .val (.int p3), .val (.long q4), .second, .val (.long q5), .second, .val (.int v1), .val (.long v55), .second, .val (.int v56), .val (.int v57), .val (.int v58), .val (.int v59), .val (.int v60), .val (.int v61), .val (.ref b206), .val (.ref b220), .val (.long v67), .second, .val (.long v68), .second, .val (.int v70), .val (.int v72), .unset, .unset, .unset, .unset, .unset] [(.int (lcmpW ((((v66 v60.toNatClampNeg).toUInt64 >>> (v61 &&& 0x3f).toInt64.toUInt64).toInt64) &&& v67) ((v59 - (1 : Int32)).toInt64)))])) _
          refine XS.ifYes X250.here hx rfl (pc0 := 230) (pc' := 237) rfl (hb hby at_230) rfl ((if0 _ _).trans (feq (own_lc_neq hc230_73)).2) (by decide) (by decide) ?_
          show Steps p.tables e below (T250.setTop (mkF m 237 #[.val (.int p0), .val (.int p1), .val (.int p2), .val (.int p3), .val (.long q4), .second, .val (.long q5), .second, .val (.int v1), .val (.long v55), .second, .val (.int v56), .val (.int v57), .val (.int v58), .val (.int v59), .val (.int v60), .val (.int v61), .val (.ref b206), .val (.ref b220), .val (.long v67), .second, .val (.long v68), .second, .val (.int v70), .val (.int v72), .unset, .unset, .unset, .unset, .unset] [])) _
          refine XS.iconst X250.here hx rfl (hb hby at_237) ?_
          exact kt
        refine own_arm hgo253 ?_
        exact own_armEnd X250 N250 e250 (by rw [hv74.trans (if_neg hc230_73)]))
    obtain ⟨cq255, kq255, q255a, q255b, q255c⟩ := isOf hZ e254 F238
    obtain ⟨_, _, ⟨T255, L255, k255, n255⟩, -, X255, ⟨Lc255, hQ255, l255, y255, z255⟩, st255⟩ := X254.virtualBack hx (y := (⟨"com/example/swapgraph/swapgraph/AllocationTable", "objectOf", "([JI)I"⟩ : MethodName)) (z := (⟨"com/example/swapgraph/swapgraph/AllocationTable", "objectOf", "([JI)I"⟩ : MethodName)) hown (mvT hZ (hw _ (List.mem_of_getElem? (i := 48) rfl))) (mvT hZ (hw _ (List.mem_of_getElem? (i := 49) rfl))) (notFace_of_selects (args := #[]) (mvT hZ (hw _ (List.mem_of_getElem? (i := 51) rfl)))) (mvT hZ (hw _ (List.mem_of_getElem? (i := 51) rfl))) (mvT hZ (hw _ (List.mem_of_getElem? (i := 50) rfl))) (by decide) (backOf (W := 0) (rm7 l Z a0 hw [] b220 b206 v58 v66 v57 v1 (((1 : Int64) <<< (v1 &&& 0x3f).toInt64) - (1 : Int64)) (T237.heap) n0 Z242 F237_0n F240 (by obtain ⟨n, h, h1⟩ := own_g1 hv1; exact own_nzI (by have q := (own_f5 h1 hv57); omega) : ¬ (v57 = (0 : Int32))) (by obtain ⟨n, h, h1⟩ := own_g1 hv1; have g := (own_g6 (own_g5 hv58) (own_f5 h1 hv57).2.1 rfl); exact own_ix g.1 (by omega) : ¬ ((v58 - (1 : Int32)) / v57) < 0 ∧ ((v58 - (1 : Int32)) / v57).toNatClampNeg < 64) F239 F241) hZ (hw _ (List.mem_of_getElem? (i := 52) rfl)) (hw _ (List.mem_of_getElem? (i := 4) rfl)) (by decide) (by decide)) q255a q255c (g := (mkF m 246 #[.val (.int p0), .val (.int p1), .val (.int p2), .val (.int p3), .val (.long q4), .second, .val (.long q5), .second, .val (.int v1), .val (.long v55), .second, .val (.int v56), .val (.int v57), .val (.int v58), .val (.int v59), .val (.int v60), .val (.int v61), .val (.ref b206), .val (.ref b220), .val (.long v67), .second, .val (.long v68), .second, .val (.int v70), .val (.int v72), .val (.int v74), .unset, .unset, .unset, .unset] [(.int v58), (.ref b206), (.ref b220)])) rfl (by rw [hml]; rfl) (Steps.refl _) (argsL := [(.ref b206), (.int v58)]) (rest := []) (lenOf pd7 rfl) rfl (by show 2 * 0 + _ ≤ _; exact Nat.le_of_eq rfl) (hb hby at_246) (fun _ _ => ⟨rfl, e254, (by decide : 4 + 0 ≤ _), (by decide : 617 + 0 ≤ _)⟩)
    dsimp only [Pt.U, Pt.locs, Pt.cells, Pt.slots] at X255 l255 y255 z255 st255 hQ255
    subst l255 y255 z255
    obtain ⟨rfl, N255q, e255⟩ := hQ255
    have N255 := Fr.app N254 N255q
    obtain ⟨v76, hv76⟩ : ∃ z : Int32, z = (if (own_r7 v58 v66 v57 v1 (((1 : Int64) <<< (v1 &&& 0x3f).toInt64) - (1 : Int64))) = v59 then (1 : Int32) else (0 : Int32)) := ⟨_, rfl⟩
    obtain ⟨T258, lc258, X258, N258, e258, st258⟩ := own_mrg (n0 := n0) (h := T237.heap) (g := (mkF m 251 #[.val (.int p0), .val (.int p1), .val (.int p2), .val (.int p3), .val (.long q4), .second, .val (.long q5), .second, .val (.int v1), .val (.long v55), .second, .val (.int v56), .val (.int v57), .val (.int v58), .val (.int v59), .val (.int v60), .val (.int v61), .val (.ref b206), .val (.ref b220), .val (.long v67), .second, .val (.long v68), .second, .val (.int v70), .val (.int v72), .val (.int v74), .unset, .unset, .unset, .unset] [(.int v59), (.int (own_r7 v58 v66 v57 v1 (((1 : Int64) <<< (v1 &&& 0x3f).toInt64) - (1 : Int64))))])) (g' := (mkF m 259 #[.val (.int p0), .val (.int p1), .val (.int p2), .val (.int p3), .val (.long q4), .second, .val (.long q5), .second, .val (.int v1), .val (.long v55), .second, .val (.int v56), .val (.int v57), .val (.int v58), .val (.int v59), .val (.int v60), .val (.int v61), .val (.ref b206), .val (.ref b220), .val (.long v67), .second, .val (.long v68), .second, .val (.int v70), .val (.int v72), .val (.int v74), .unset, .unset, .unset, .unset] [(.int v76)])) X255 (by
      by_cases hc251_75 : (own_r7 v58 v66 v57 v1 (((1 : Int64) <<< (v1 &&& 0x3f).toInt64) - (1 : Int64))) = v59
      · have hgo256 : ∀ t, Steps p.tables e below (T255.setTop (mkF m 259 #[.val (.int p0), .val (.int p1), .val (.int p2), .val (.int p3), .val (.long q4), .second, .val (.long q5), .second, .val (.int v1), .val (.long v55), .second, .val (.int v56), .val (.int v57), .val (.int v58), .val (.int v59), .val (.int v60), .val (.int v61), .val (.ref b206), .val (.ref b220), .val (.long v67), .second, .val (.long v68), .second, .val (.int v70), .val (.int v72), .val (.int v74), .unset, .unset, .unset, .unset] [(.int (1 : Int32))])) t → Steps p.tables e below (T255.setTop (mkF m 251 #[.val (.int p0), .val (.int p1), .val (.int p2), .val (.int p3), .val (.long q4), .second, .val (.long q5), .second, .val (.int v1), .val (.long v55), .second, .val (.int v56), .val (.int v57), .val (.int v58), .val (.int v59), .val (.int v60), .val (.int v61), .val (.ref b206), .val (.ref b220), .val (.long v67), .second, .val (.long v68), .second, .val (.int v70), .val (.int v72), .val (.int v74), .unset, .unset, .unset, .unset] [(.int v59), (.int (own_r7 v58 v66 v57 v1 (((1 : Int64) <<< (v1 &&& 0x3f).toInt64) - (1 : Int64))))])) t := by
          intro t kt
          show Steps p.tables e below (T255.setTop (mkF m 251 #[.val (.int p0), .val (.int p1), .val (.int p2), .val (.int p3), .val (.long q4), .second, .val (.long q5), .second, .val (.int v1), .val (.long v55), .second, .val (.int v56), .val (.int v57), .val (.int v58), .val (.int v59), .val (.int v60), .val (.int v61), .val (.ref b206), .val (.ref b220), .val (.long v67), .second, .val (.long v68), .second, .val (.int v70), .val (.int v72), .val (.int v74), .unset, .unset, .unset, .unset] [(.int v59), (.int (own_r7 v58 v66 v57 v1 (((1 : Int64) <<< (v1 &&& 0x3f).toInt64) - (1 : Int64))))])) _
          refine XS.icmpNo X255.here hx rfl (hb hby at_251) rfl (teq hc251_75).2 ?_
          show Steps p.tables e below (T255.setTop (mkF m 254 #[.val (.int p0), .val (.int p1), .val (.int p2), .val (.int p3), .val (.long q4), .second, .val (.long q5), .second, .val (.int v1), .val (.long v55), .second, .val (.int v56), .val (.int v57), .val (.int v58), .val (.int v59), .val (.int v60), .val (.int v61), .val (.ref b206), .val (.ref b220), .val (.long v67), .second, .val (.long v68), .second, .val (.int v70), .val (.int v72), .val (.int v74), .unset, .unset, .unset, .unset] [])) _
          refine XS.iconst X255.here hx rfl (hb hby at_254) ?_
          show Steps p.tables e below (T255.setTop (mkF m 255 #[.val (.int p0), .val (.int p1), .val (.int p2), .val (.int p3), .val (.long q4), .second, .val (.long q5), .second, .val (.int v1), .val (.long v55), .second, .val (.int v56), .val (.int v57), .val (.int v58), .val (.int v59), .val (.int v60), .val (.int v61), .val (.ref b206), .val (.ref b220), .val (.long v67), .second, .val (.long v68), .second, .val (.int v70), .val (.int v72), .val (.int v74), .unset, .unset, .unset, .unset] [(.int (1 : Int32))])) _
          refine XS.goto X255.here hx rfl (pc0 := 255) (pc' := 259) rfl (hb hby at_255) (by decide) (by decide) ?_
          exact kt
        refine own_arm hgo256 ?_
        exact own_armEnd X255 N255 e255 (by rw [hv76.trans (if_pos hc251_75)])
      · have hgo257 : ∀ t, Steps p.tables e below (T255.setTop (mkF m 259 #[.val (.int p0), .val (.int p1), .val (.int p2), .val (.int p3), .val (.long q4), .second, .val (.long q5), .second, .val (.int v1), .val (.long v55), .second, .val (.int v56), .val (.int v57), .val (.int v58), .val (.int v59), .val (.int v60), .val (.int v61), .val (.ref b206), .val (.ref b220), .val (.long v67), .second, .val (.long v68), .second, .val (.int v70), .val (.int v72), .val (.int v74), .unset, .unset, .unset, .unset] [(.int (0 : Int32))])) t → Steps p.tables e below (T255.setTop (mkF m 251 #[.val (.int p0), .val (.int p1), .val (.int p2), .val (.int p3), .val (.long q4), .second, .val (.long q5), .second, .val (.int v1), .val (.long v55), .second, .val (.int v56), .val (.int v57), .val (.int v58), .val (.int v59), .val (.int v60), .val (.int v61), .val (.ref b206), .val (.ref b220), .val (.long v67), .second, .val (.long v68), .second, .val (.int v70), .val (.int v72), .val (.int v74), .unset, .unset, .unset, .unset] [(.int v59), (.int (own_r7 v58 v66 v57 v1 (((1 : Int64) <<< (v1 &&& 0x3f).toInt64) - (1 : Int64))))])) t := by
          intro t kt
          show Steps p.tables e below (T255.setTop (mkF m 251 #[.val (.int p0), .val (.int p1), .val (.int p2), .val (.int p3), .val (.long q4), .second, .val (.long q5), .second, .val (.int v1), .val (.long v55), .second, .val (.int v56), .val (.int v57), .val (.int v58), .val (.int v59), .val (.int v60), .val (.int v61), .val (.ref b206), .val (.ref b220), .val (.long v67), .second, .val (.long v68), .second, .val (.int v70), .val (.int v72), .val (.int v74), .unset, .unset, .unset, .unset] [(.int v59), (.int (own_r7 v58 v66 v57 v1 (((1 : Int64) <<< (v1 &&& 0x3f).toInt64) - (1 : Int64))))])) _
          refine XS.icmpYes X255.here hx rfl (pc0 := 251) (pc' := 258) rfl (hb hby at_251) rfl (feq hc251_75).2 (by decide) (by decide) ?_
          show Steps p.tables e below (T255.setTop (mkF m 258 #[.val (.int p0), .val (.int p1), .val (.int p2), .val (.int p3), .val (.long q4), .second, .val (.long q5), .second, .val (.int v1), .val (.long v55), .second, .val (.int v56), .val (.int v57), .val (.int v58), .val (.int v59), .val (.int v60), .val (.int v61), .val (.ref b206), .val (.ref b220), .val (.long v67), .second, .val (.long v68), .second, .val (.int v70), .val (.int v72), .val (.int v74), .unset, .unset, .unset, .unset] [])) _
          refine XS.iconst X255.here hx rfl (hb hby at_258) ?_
          exact kt
        refine own_arm hgo257 ?_
        exact own_armEnd X255 N255 e255 (by rw [hv76.trans (if_neg hc251_75)]))
    have hin267_259 : ¬ v64 < 0 ∧ v64.toNatClampNeg < 64 := by obtain ⟨n, h, h1⟩ := own_g1 hv1; have g := (own_g6 (own_g5 hv58) (own_f5 h1 hv57).2.1 hv60); have e := own_g8 g hv64; exact own_ix (by omega) (by omega)
    obtain ⟨v78, hv78⟩ : ∃ z : Int32, z = (if (v66 v64.toNatClampNeg) = q5 then (1 : Int32) else (0 : Int32)) := ⟨_, rfl⟩
    obtain ⟨T262, lc262, X262, N262, e262, st262⟩ := own_mrg (n0 := n0) (h := T237.heap) (g := (mkF m 271 #[.val (.int p0), .val (.int p1), .val (.int p2), .val (.int p3), .val (.long q4), .second, .val (.long q5), .second, .val (.int v1), .val (.long v55), .second, .val (.int v56), .val (.int v57), .val (.int v58), .val (.int v59), .val (.int v60), .val (.int v61), .val (.ref b206), .val (.ref b220), .val (.long v67), .second, .val (.long v68), .second, .val (.int v70), .val (.int v72), .val (.int v74), .val (.int v76), .unset, .unset, .unset] [(.int (lcmpW (v66 v64.toNatClampNeg) q5))])) (g' := (mkF m 279 #[.val (.int p0), .val (.int p1), .val (.int p2), .val (.int p3), .val (.long q4), .second, .val (.long q5), .second, .val (.int v1), .val (.long v55), .second, .val (.int v56), .val (.int v57), .val (.int v58), .val (.int v59), .val (.int v60), .val (.int v61), .val (.ref b206), .val (.ref b220), .val (.long v67), .second, .val (.long v68), .second, .val (.int v70), .val (.int v72), .val (.int v74), .val (.int v76), .unset, .unset, .unset] [(.int v78)])) X258 (by
      by_cases hc271_77 : (v66 v64.toNatClampNeg) = q5
      · have hgo260 : ∀ t, Steps p.tables e below (T258.setTop (mkF m 279 #[.val (.int p0), .val (.int p1), .val (.int p2), .val (.int p3), .val (.long q4), .second, .val (.long q5), .second, .val (.int v1), .val (.long v55), .second, .val (.int v56), .val (.int v57), .val (.int v58), .val (.int v59), .val (.int v60), .val (.int v61), .val (.ref b206), .val (.ref b220), .val (.long v67), .second, .val (.long v68), .second, .val (.int v70), .val (.int v72), .val (.int v74), .val (.int v76), .unset, .unset, .unset] [(.int (1 : Int32))])) t → Steps p.tables e below (T258.setTop (mkF m 271 #[.val (.int p0), .val (.int p1), .val (.int p2), .val (.int p3), .val (.long q4), .second, .val (.long q5), .second, .val (.int v1), .val (.long v55), .second, .val (.int v56), .val (.int v57), .val (.int v58), .val (.int v59), .val (.int v60), .val (.int v61), .val (.ref b206), .val (.ref b220), .val (.long v67), .second, .val (.long v68), .second, .val (.int v70), .val (.int v72), .val (.int v74), .val (.int v76), .unset, .unset, .unset] [(.int (lcmpW (v66 v64.toNatClampNeg) q5))])) t := by
          intro t kt
          show Steps p.tables e below (T258.setTop (mkF m 271 #[.val (.int p0), .val (.int p1), .val (.int p2), .val (.int p3), .val (.long q4), .second, .val (.long q5), .second, .val (.int v1), .val (.long v55), .second, .val (.int v56), .val (.int v57), .val (.int v58), .val (.int v59), .val (.int v60), .val (.int v61), .val (.ref b206), .val (.ref b220), .val (.long v67), .second, .val (.long v68), .second, .val (.int v70), .val (.int v72), .val (.int v74), .val (.int v76), .unset, .unset, .unset] [(.int (lcmpW (v66 v64.toNatClampNeg) q5))])) _
          refine XS.ifNo X258.here hx rfl (hb hby at_271) rfl ((if0 _ _).trans (teq (own_lc_eq hc271_77)).2) ?_
          show Steps p.tables e below (T258.setTop (mkF m 274 #[.val (.int p0), .val (.int p1), .val (.int p2), .val (.int p3), .val (.long q4), .second, .val (.long q5), .second, .val (.int v1), .val (.long v55), .second, .val (.int v56), .val (.int v57), .val (.int v58), .val (.int v59), .val (.int v60), .val (.int v61), .val (.ref b206), .val (.ref b220), .val (.long v67), .second, .val (.long v68), .second, .val (.int v70), .val (.int v72), .val (.int v74), .val (.int v76), .unset, .unset, .unset] [])) _
          refine XS.iconst X258.here hx rfl (hb hby at_274) ?_
          show Steps p.tables e below (T258.setTop (mkF m 275 #[.val (.int p0), .val (.int p1), .val (.int p2), .val (.int p3), .val (.long q4), .second, .val (.long q5), .second, .val (.int v1), .val (.long v55), .second, .val (.int v56), .val (.int v57), .val (.int v58), .val (.int v59), .val (.int v60), .val (.int v61), .val (.ref b206), .val (.ref b220), .val (.long v67), .second, .val (.long v68), .second, .val (.int v70), .val (.int v72), .val (.int v74), .val (.int v76), .unset, .unset, .unset] [(.int (1 : Int32))])) _
          refine XS.goto X258.here hx rfl (pc0 := 275) (pc' := 279) rfl (hb hby at_275) (by decide) (by decide) ?_
          exact kt
        refine own_arm hgo260 ?_
        exact own_armEnd X258 N258 e258 (by rw [hv78.trans (if_pos hc271_77)])
      · have hgo261 : ∀ t, Steps p.tables e below (T258.setTop (mkF m 279 #[.val (.int p0), .val (.int p1), .val (.int p2), .val (.int p3), .val (.long q4), .second, .val (.long q5), .second, .val (.int v1), .val (.long v55), .second, .val (.int v56), .val (.int v57), .val (.int v58), .val (.int v59), .val (.int v60), .val (.int v61), .val (.ref b206), .val (.ref b220), .val (.long v67), .second, .val (.long v68), .second, .val (.int v70), .val (.int v72), .val (.int v74), .val (.int v76), .unset, .unset, .unset] [(.int (0 : Int32))])) t → Steps p.tables e below (T258.setTop (mkF m 271 #[.val (.int p0), .val (.int p1), .val (.int p2), .val (.int p3), .val (.long q4), .second, .val (.long q5), .second, .val (.int v1), .val (.long v55), .second, .val (.int v56), .val (.int v57), .val (.int v58), .val (.int v59), .val (.int v60), .val (.int v61), .val (.ref b206), .val (.ref b220), .val (.long v67), .second, .val (.long v68), .second, .val (.int v70), .val (.int v72), .val (.int v74), .val (.int v76), .unset, .unset, .unset] [(.int (lcmpW (v66 v64.toNatClampNeg) q5))])) t := by
          intro t kt
          show Steps p.tables e below (T258.setTop (mkF m 271 #[.val (.int p0), .val (.int p1), .val (.int p2), .val (.int p3), .val (.long q4), .second, .val (.long q5), .second, .val (.int v1), .val (.long v55), .second, .val (.int v56), .val (.int v57), .val (.int v58), .val (.int v59), .val (.int v60), .val (.int v61), .val (.ref b206), .val (.ref b220), .val (.long v67), .second, .val (.long v68), .second, .val (.int v70), .val (.int v72), .val (.int v74), .val (.int v76), .unset, .unset, .unset] [(.int (lcmpW (v66 v64.toNatClampNeg) q5))])) _
          refine XS.ifYes X258.here hx rfl (pc0 := 271) (pc' := 278) rfl (hb hby at_271) rfl ((if0 _ _).trans (feq (own_lc_neq hc271_77)).2) (by decide) (by decide) ?_
          show Steps p.tables e below (T258.setTop (mkF m 278 #[.val (.int p0), .val (.int p1), .val (.int p2), .val (.int p3), .val (.long q4), .second, .val (.long q5), .second, .val (.int v1), .val (.long v55), .second, .val (.int v56), .val (.int v57), .val (.int v58), .val (.int v59), .val (.int v60), .val (.int v61), .val (.ref b206), .val (.ref b220), .val (.long v67), .second, .val (.long v68), .second, .val (.int v70), .val (.int v72), .val (.int v74), .val (.int v76), .unset, .unset, .unset] [])) _
          refine XS.iconst X258.here hx rfl (hb hby at_278) ?_
          exact kt
        refine own_arm hgo261 ?_
        exact own_armEnd X258 N258 e258 (by rw [hv78.trans (if_neg hc271_77)]))
    obtain ⟨v80, hv80⟩ : ∃ z : Int32, z = (v60 - (1 : Int32)) := ⟨_, rfl⟩
    obtain ⟨v82, hv82⟩ : ∃ z : Int32, z = (if (v66 v80.toNatClampNeg) = (0 : Int64) then (1 : Int32) else (0 : Int32)) := ⟨_, rfl⟩
    obtain ⟨v83, hv83⟩ : ∃ z : Int32, z = (if v60 = (0 : Int32) then (1 : Int32) else v82) := ⟨_, rfl⟩
    obtain ⟨T269, lc269, X269, N269, e269, st269⟩ := own_mrg (n0 := n0) (h := T237.heap) (g := (mkF m 283 #[.val (.int p0), .val (.int p1), .val (.int p2), .val (.int p3), .val (.long q4), .second, .val (.long q5), .second, .val (.int v1), .val (.long v55), .second, .val (.int v56), .val (.int v57), .val (.int v58), .val (.int v59), .val (.int v60), .val (.int v61), .val (.ref b206), .val (.ref b220), .val (.long v67), .second, .val (.long v68), .second, .val (.int v70), .val (.int v72), .val (.int v74), .val (.int v76), .val (.int v78), .unset, .unset] [(.int v60)])) (g' := (mkF m 303 #[.val (.int p0), .val (.int p1), .val (.int p2), .val (.int p3), .val (.long q4), .second, .val (.long q5), .second, .val (.int v1), .val (.long v55), .second, .val (.int v56), .val (.int v57), .val (.int v58), .val (.int v59), .val (.int v60), .val (.int v61), .val (.ref b206), .val (.ref b220), .val (.long v67), .second, .val (.long v68), .second, .val (.int v70), .val (.int v72), .val (.int v74), .val (.int v76), .val (.int v78), .unset, .unset] [(.int v83)])) X262 (by
      by_cases hc283_79 : v60 = (0 : Int32)
      · have hgo263 : ∀ t, Steps p.tables e below (T262.setTop (mkF m 303 #[.val (.int p0), .val (.int p1), .val (.int p2), .val (.int p3), .val (.long q4), .second, .val (.long q5), .second, .val (.int v1), .val (.long v55), .second, .val (.int v56), .val (.int v57), .val (.int v58), .val (.int v59), .val (.int v60), .val (.int v61), .val (.ref b206), .val (.ref b220), .val (.long v67), .second, .val (.long v68), .second, .val (.int v70), .val (.int v72), .val (.int v74), .val (.int v76), .val (.int v78), .unset, .unset] [(.int (1 : Int32))])) t → Steps p.tables e below (T262.setTop (mkF m 283 #[.val (.int p0), .val (.int p1), .val (.int p2), .val (.int p3), .val (.long q4), .second, .val (.long q5), .second, .val (.int v1), .val (.long v55), .second, .val (.int v56), .val (.int v57), .val (.int v58), .val (.int v59), .val (.int v60), .val (.int v61), .val (.ref b206), .val (.ref b220), .val (.long v67), .second, .val (.long v68), .second, .val (.int v70), .val (.int v72), .val (.int v74), .val (.int v76), .val (.int v78), .unset, .unset] [(.int v60)])) t := by
          intro t kt
          show Steps p.tables e below (T262.setTop (mkF m 283 #[.val (.int p0), .val (.int p1), .val (.int p2), .val (.int p3), .val (.long q4), .second, .val (.long q5), .second, .val (.int v1), .val (.long v55), .second, .val (.int v56), .val (.int v57), .val (.int v58), .val (.int v59), .val (.int v60), .val (.int v61), .val (.ref b206), .val (.ref b220), .val (.long v67), .second, .val (.long v68), .second, .val (.int v70), .val (.int v72), .val (.int v74), .val (.int v76), .val (.int v78), .unset, .unset] [(.int v60)])) _
          refine XS.ifYes X262.here hx rfl (pc0 := 283) (pc' := 298) rfl (hb hby at_283) rfl ((if0 _ _).trans (teq hc283_79).1) (by decide) (by decide) ?_
          show Steps p.tables e below (T262.setTop (mkF m 298 #[.val (.int p0), .val (.int p1), .val (.int p2), .val (.int p3), .val (.long q4), .second, .val (.long q5), .second, .val (.int v1), .val (.long v55), .second, .val (.int v56), .val (.int v57), .val (.int v58), .val (.int v59), .val (.int v60), .val (.int v61), .val (.ref b206), .val (.ref b220), .val (.long v67), .second, .val (.long v68), .second, .val (.int v70), .val (.int v72), .val (.int v74), .val (.int v76), .val (.int v78), .unset, .unset] [])) _
          refine XS.iconst X262.here hx rfl (hb hby at_298) ?_
          show Steps p.tables e below (T262.setTop (mkF m 299 #[.val (.int p0), .val (.int p1), .val (.int p2), .val (.int p3), .val (.long q4), .second, .val (.long q5), .second, .val (.int v1), .val (.long v55), .second, .val (.int v56), .val (.int v57), .val (.int v58), .val (.int v59), .val (.int v60), .val (.int v61), .val (.ref b206), .val (.ref b220), .val (.long v67), .second, .val (.long v68), .second, .val (.int v70), .val (.int v72), .val (.int v74), .val (.int v76), .val (.int v78), .unset, .unset] [(.int (1 : Int32))])) _
          refine XS.goto X262.here hx rfl (pc0 := 299) (pc' := 303) rfl (hb hby at_299) (by decide) (by decide) ?_
          exact kt
        refine own_arm hgo263 ?_
        exact own_armEnd X262 N262 e262 (by rw [hv83.trans (if_pos hc283_79)])
      · have hin292_264 : ¬ v80 < 0 ∧ v80.toNatClampNeg < 64 := by obtain ⟨n, h, h1⟩ := own_g1 hv1; have g := (own_g6 (own_g5 hv58) (own_f5 h1 hv57).2.1 hv60); have e := own_g9 g hc283_79 hv80; exact own_ix (by omega) (by omega)
        obtain ⟨T267, lc267, X267, N267, e267, st267⟩ := own_mrg (n0 := n0) (h := T237.heap) (g := (mkF m 295 #[.val (.int p0), .val (.int p1), .val (.int p2), .val (.int p3), .val (.long q4), .second, .val (.long q5), .second, .val (.int v1), .val (.long v55), .second, .val (.int v56), .val (.int v57), .val (.int v58), .val (.int v59), .val (.int v60), .val (.int v61), .val (.ref b206), .val (.ref b220), .val (.long v67), .second, .val (.long v68), .second, .val (.int v70), .val (.int v72), .val (.int v74), .val (.int v76), .val (.int v78), .unset, .unset] [(.int (lcmpW (v66 v80.toNatClampNeg) (0 : Int64)))])) (g' := (mkF m 303 #[.val (.int p0), .val (.int p1), .val (.int p2), .val (.int p3), .val (.long q4), .second, .val (.long q5), .second, .val (.int v1), .val (.long v55), .second, .val (.int v56), .val (.int v57), .val (.int v58), .val (.int v59), .val (.int v60), .val (.int v61), .val (.ref b206), .val (.ref b220), .val (.long v67), .second, .val (.long v68), .second, .val (.int v70), .val (.int v72), .val (.int v74), .val (.int v76), .val (.int v78), .unset, .unset] [(.int v82)])) X262 (by
          by_cases hc295_81 : (v66 v80.toNatClampNeg) = (0 : Int64)
          · have hgo265 : ∀ t, Steps p.tables e below (T262.setTop (mkF m 303 #[.val (.int p0), .val (.int p1), .val (.int p2), .val (.int p3), .val (.long q4), .second, .val (.long q5), .second, .val (.int v1), .val (.long v55), .second, .val (.int v56), .val (.int v57), .val (.int v58), .val (.int v59), .val (.int v60), .val (.int v61), .val (.ref b206), .val (.ref b220), .val (.long v67), .second, .val (.long v68), .second, .val (.int v70), .val (.int v72), .val (.int v74), .val (.int v76), .val (.int v78), .unset, .unset] [(.int (1 : Int32))])) t → Steps p.tables e below (T262.setTop (mkF m 295 #[.val (.int p0), .val (.int p1), .val (.int p2), .val (.int p3), .val (.long q4), .second, .val (.long q5), .second, .val (.int v1), .val (.long v55), .second, .val (.int v56), .val (.int v57), .val (.int v58), .val (.int v59), .val (.int v60), .val (.int v61), .val (.ref b206), .val (.ref b220), .val (.long v67), .second, .val (.long v68), .second, .val (.int v70), .val (.int v72), .val (.int v74), .val (.int v76), .val (.int v78), .unset, .unset] [(.int (lcmpW (v66 v80.toNatClampNeg) (0 : Int64)))])) t := by
              intro t kt
              show Steps p.tables e below (T262.setTop (mkF m 295 #[.val (.int p0), .val (.int p1), .val (.int p2), .val (.int p3), .val (.long q4), .second, .val (.long q5), .second, .val (.int v1), .val (.long v55), .second, .val (.int v56), .val (.int v57), .val (.int v58), .val (.int v59), .val (.int v60), .val (.int v61), .val (.ref b206), .val (.ref b220), .val (.long v67), .second, .val (.long v68), .second, .val (.int v70), .val (.int v72), .val (.int v74), .val (.int v76), .val (.int v78), .unset, .unset] [(.int (lcmpW (v66 v80.toNatClampNeg) (0 : Int64)))])) _
              refine XS.ifNo X262.here hx rfl (hb hby at_295) rfl ((if0 _ _).trans (teq (own_lc_eq hc295_81)).2) ?_
              show Steps p.tables e below (T262.setTop (mkF m 298 #[.val (.int p0), .val (.int p1), .val (.int p2), .val (.int p3), .val (.long q4), .second, .val (.long q5), .second, .val (.int v1), .val (.long v55), .second, .val (.int v56), .val (.int v57), .val (.int v58), .val (.int v59), .val (.int v60), .val (.int v61), .val (.ref b206), .val (.ref b220), .val (.long v67), .second, .val (.long v68), .second, .val (.int v70), .val (.int v72), .val (.int v74), .val (.int v76), .val (.int v78), .unset, .unset] [])) _
              refine XS.iconst X262.here hx rfl (hb hby at_298) ?_
              show Steps p.tables e below (T262.setTop (mkF m 299 #[.val (.int p0), .val (.int p1), .val (.int p2), .val (.int p3), .val (.long q4), .second, .val (.long q5), .second, .val (.int v1), .val (.long v55), .second, .val (.int v56), .val (.int v57), .val (.int v58), .val (.int v59), .val (.int v60), .val (.int v61), .val (.ref b206), .val (.ref b220), .val (.long v67), .second, .val (.long v68), .second, .val (.int v70), .val (.int v72), .val (.int v74), .val (.int v76), .val (.int v78), .unset, .unset] [(.int (1 : Int32))])) _
              refine XS.goto X262.here hx rfl (pc0 := 299) (pc' := 303) rfl (hb hby at_299) (by decide) (by decide) ?_
              exact kt
            refine own_arm hgo265 ?_
            exact own_armEnd X262 N262 e262 (by rw [hv82.trans (if_pos hc295_81)])
          · have hgo266 : ∀ t, Steps p.tables e below (T262.setTop (mkF m 303 #[.val (.int p0), .val (.int p1), .val (.int p2), .val (.int p3), .val (.long q4), .second, .val (.long q5), .second, .val (.int v1), .val (.long v55), .second, .val (.int v56), .val (.int v57), .val (.int v58), .val (.int v59), .val (.int v60), .val (.int v61), .val (.ref b206), .val (.ref b220), .val (.long v67), .second, .val (.long v68), .second, .val (.int v70), .val (.int v72), .val (.int v74), .val (.int v76), .val (.int v78), .unset, .unset] [(.int (0 : Int32))])) t → Steps p.tables e below (T262.setTop (mkF m 295 #[.val (.int p0), .val (.int p1), .val (.int p2), .val (.int p3), .val (.long q4), .second, .val (.long q5), .second, .val (.int v1), .val (.long v55), .second, .val (.int v56), .val (.int v57), .val (.int v58), .val (.int v59), .val (.int v60), .val (.int v61), .val (.ref b206), .val (.ref b220), .val (.long v67), .second, .val (.long v68), .second, .val (.int v70), .val (.int v72), .val (.int v74), .val (.int v76), .val (.int v78), .unset, .unset] [(.int (lcmpW (v66 v80.toNatClampNeg) (0 : Int64)))])) t := by
              intro t kt
              show Steps p.tables e below (T262.setTop (mkF m 295 #[.val (.int p0), .val (.int p1), .val (.int p2), .val (.int p3), .val (.long q4), .second, .val (.long q5), .second, .val (.int v1), .val (.long v55), .second, .val (.int v56), .val (.int v57), .val (.int v58), .val (.int v59), .val (.int v60), .val (.int v61), .val (.ref b206), .val (.ref b220), .val (.long v67), .second, .val (.long v68), .second, .val (.int v70), .val (.int v72), .val (.int v74), .val (.int v76), .val (.int v78), .unset, .unset] [(.int (lcmpW (v66 v80.toNatClampNeg) (0 : Int64)))])) _
              refine XS.ifYes X262.here hx rfl (pc0 := 295) (pc' := 302) rfl (hb hby at_295) rfl ((if0 _ _).trans (feq (own_lc_neq hc295_81)).2) (by decide) (by decide) ?_
              show Steps p.tables e below (T262.setTop (mkF m 302 #[.val (.int p0), .val (.int p1), .val (.int p2), .val (.int p3), .val (.long q4), .second, .val (.long q5), .second, .val (.int v1), .val (.long v55), .second, .val (.int v56), .val (.int v57), .val (.int v58), .val (.int v59), .val (.int v60), .val (.int v61), .val (.ref b206), .val (.ref b220), .val (.long v67), .second, .val (.long v68), .second, .val (.int v70), .val (.int v72), .val (.int v74), .val (.int v76), .val (.int v78), .unset, .unset] [])) _
              refine XS.iconst X262.here hx rfl (hb hby at_302) ?_
              exact kt
            refine own_arm hgo266 ?_
            exact own_armEnd X262 N262 e262 (by rw [hv82.trans (if_neg hc295_81)]))
        have hgo268 : ∀ t, Steps p.tables e below (T267.setTop (mkF m 303 #[.val (.int p0), .val (.int p1), .val (.int p2), .val (.int p3), .val (.long q4), .second, .val (.long q5), .second, .val (.int v1), .val (.long v55), .second, .val (.int v56), .val (.int v57), .val (.int v58), .val (.int v59), .val (.int v60), .val (.int v61), .val (.ref b206), .val (.ref b220), .val (.long v67), .second, .val (.long v68), .second, .val (.int v70), .val (.int v72), .val (.int v74), .val (.int v76), .val (.int v78), .unset, .unset] [(.int v82)])) t → Steps p.tables e below (T262.setTop (mkF m 283 #[.val (.int p0), .val (.int p1), .val (.int p2), .val (.int p3), .val (.long q4), .second, .val (.long q5), .second, .val (.int v1), .val (.long v55), .second, .val (.int v56), .val (.int v57), .val (.int v58), .val (.int v59), .val (.int v60), .val (.int v61), .val (.ref b206), .val (.ref b220), .val (.long v67), .second, .val (.long v68), .second, .val (.int v70), .val (.int v72), .val (.int v74), .val (.int v76), .val (.int v78), .unset, .unset] [(.int v60)])) t := by
          intro t kt
          show Steps p.tables e below (T262.setTop (mkF m 283 #[.val (.int p0), .val (.int p1), .val (.int p2), .val (.int p3), .val (.long q4), .second, .val (.long q5), .second, .val (.int v1), .val (.long v55), .second, .val (.int v56), .val (.int v57), .val (.int v58), .val (.int v59), .val (.int v60), .val (.int v61), .val (.ref b206), .val (.ref b220), .val (.long v67), .second, .val (.long v68), .second, .val (.int v70), .val (.int v72), .val (.int v74), .val (.int v76), .val (.int v78), .unset, .unset] [(.int v60)])) _
          refine XS.ifNo X262.here hx rfl (hb hby at_283) rfl ((if0 _ _).trans (feq hc283_79).1) ?_
          show Steps p.tables e below (T262.setTop (mkF m 286 #[.val (.int p0), .val (.int p1), .val (.int p2), .val (.int p3), .val (.long q4), .second, .val (.long q5), .second, .val (.int v1), .val (.long v55), .second, .val (.int v56), .val (.int v57), .val (.int v58), .val (.int v59), .val (.int v60), .val (.int v61), .val (.ref b206), .val (.ref b220), .val (.long v67), .second, .val (.long v68), .second, .val (.int v70), .val (.int v72), .val (.int v74), .val (.int v76), .val (.int v78), .unset, .unset] [])) _
          refine XS.aload X262.here hx rfl (hb hby at_286) rfl rfl ?_
          show Steps p.tables e below (T262.setTop (mkF m 288 #[.val (.int p0), .val (.int p1), .val (.int p2), .val (.int p3), .val (.long q4), .second, .val (.long q5), .second, .val (.int v1), .val (.long v55), .second, .val (.int v56), .val (.int v57), .val (.int v58), .val (.int v59), .val (.int v60), .val (.int v61), .val (.ref b206), .val (.ref b220), .val (.long v67), .second, .val (.long v68), .second, .val (.int v70), .val (.int v72), .val (.int v74), .val (.int v76), .val (.int v78), .unset, .unset] [(.ref b206)])) _
          refine XS.iload X262.here hx rfl (hb hby at_288) rfl ?_
          show Steps p.tables e below (T262.setTop (mkF m 290 #[.val (.int p0), .val (.int p1), .val (.int p2), .val (.int p3), .val (.long q4), .second, .val (.long q5), .second, .val (.int v1), .val (.long v55), .second, .val (.int v56), .val (.int v57), .val (.int v58), .val (.int v59), .val (.int v60), .val (.int v61), .val (.ref b206), .val (.ref b220), .val (.long v67), .second, .val (.long v68), .second, .val (.int v70), .val (.int v72), .val (.int v74), .val (.int v76), .val (.int v78), .unset, .unset] [(.int v60), (.ref b206)])) _
          refine XS.iconst X262.here hx rfl (hb hby at_290) ?_
          show Steps p.tables e below (T262.setTop (mkF m 291 #[.val (.int p0), .val (.int p1), .val (.int p2), .val (.int p3), .val (.long q4), .second, .val (.long q5), .second, .val (.int v1), .val (.long v55), .second, .val (.int v56), .val (.int v57), .val (.int v58), .val (.int v59), .val (.int v60), .val (.int v61), .val (.ref b206), .val (.ref b220), .val (.long v67), .second, .val (.long v68), .second, .val (.int v70), .val (.int v72), .val (.int v74), .val (.int v76), .val (.int v78), .unset, .unset] [(.int (1 : Int32)), (.int v60), (.ref b206)])) _
          refine XS.isub X262.here hx rfl (hb hby at_291) rfl ?_
          show Steps p.tables e below (T262.setTop (mkF m 292 #[.val (.int p0), .val (.int p1), .val (.int p2), .val (.int p3), .val (.long q4), .second, .val (.long q5), .second, .val (.int v1), .val (.long v55), .second, .val (.int v56), .val (.int v57), .val (.int v58), .val (.int v59), .val (.int v60), .val (.int v61), .val (.ref b206), .val (.ref b220), .val (.long v67), .second, .val (.long v68), .second, .val (.int v70), .val (.int v72), .val (.int v74), .val (.int v76), .val (.int v78), .unset, .unset] [(.int (v60 - (1 : Int32))), (.ref b206)])) _
          rw [← hv80]
          refine own_ldJ X262 hx hZ e262 F237_0n (j := v80) hin292_264 (g := (mkF m 292 #[.val (.int p0), .val (.int p1), .val (.int p2), .val (.int p3), .val (.long q4), .second, .val (.long q5), .second, .val (.int v1), .val (.long v55), .second, .val (.int v56), .val (.int v57), .val (.int v58), .val (.int v59), .val (.int v60), .val (.int v61), .val (.ref b206), .val (.ref b220), .val (.long v67), .second, .val (.long v68), .second, .val (.int v70), .val (.int v72), .val (.int v74), .val (.int v76), .val (.int v78), .unset, .unset] [(.int v80), (.ref b206)])) rfl rfl (hb hby at_292) _ ?_
          show Steps p.tables e below (T262.setTop (mkF m 293 #[.val (.int p0), .val (.int p1), .val (.int p2), .val (.int p3), .val (.long q4), .second, .val (.long q5), .second, .val (.int v1), .val (.long v55), .second, .val (.int v56), .val (.int v57), .val (.int v58), .val (.int v59), .val (.int v60), .val (.int v61), .val (.ref b206), .val (.ref b220), .val (.long v67), .second, .val (.long v68), .second, .val (.int v70), .val (.int v72), .val (.int v74), .val (.int v76), .val (.int v78), .unset, .unset] [(.long (v66 v80.toNatClampNeg))])) _
          refine XS.lconst X262.here hx rfl (hb hby at_293) ?_
          show Steps p.tables e below (T262.setTop (mkF m 294 #[.val (.int p0), .val (.int p1), .val (.int p2), .val (.int p3), .val (.long q4), .second, .val (.long q5), .second, .val (.int v1), .val (.long v55), .second, .val (.int v56), .val (.int v57), .val (.int v58), .val (.int v59), .val (.int v60), .val (.int v61), .val (.ref b206), .val (.ref b220), .val (.long v67), .second, .val (.long v68), .second, .val (.int v70), .val (.int v72), .val (.int v74), .val (.int v76), .val (.int v78), .unset, .unset] [(.long (0 : Int64)), (.long (v66 v80.toNatClampNeg))])) _
          refine XS.lcmp X262.here hx rfl (hb hby at_294) rfl ?_
          show Steps p.tables e below (T262.setTop (mkF m 295 #[.val (.int p0), .val (.int p1), .val (.int p2), .val (.int p3), .val (.long q4), .second, .val (.long q5), .second, .val (.int v1), .val (.long v55), .second, .val (.int v56), .val (.int v57), .val (.int v58), .val (.int v59), .val (.int v60), .val (.int v61), .val (.ref b206), .val (.ref b220), .val (.long v67), .second, .val (.long v68), .second, .val (.int v70), .val (.int v72), .val (.int v74), .val (.int v76), .val (.int v78), .unset, .unset] [(.int (lcmpW (v66 v80.toNatClampNeg) (0 : Int64)))])) _
          refine st267 _ ?_
          exact kt
        refine own_arm hgo268 ?_
        exact own_armEnd X267 N267 e267 (by rw [hv83.trans (if_neg hc283_79)]))
    have hin309_270 : ¬ (63 : Int32) < 0 ∧ (63 : Int32).toNatClampNeg < 64 := by decide
    obtain ⟨v85, hv85⟩ : ∃ z : Int32, z = (if (v66 63) = (0 : Int64) then (1 : Int32) else (0 : Int32)) := ⟨_, rfl⟩
    obtain ⟨T273, lc273, X273, N273, e273, st273⟩ := own_mrg (n0 := n0) (h := T237.heap) (g := (mkF m 312 #[.val (.int p0), .val (.int p1), .val (.int p2), .val (.int p3), .val (.long q4), .second, .val (.long q5), .second, .val (.int v1), .val (.long v55), .second, .val (.int v56), .val (.int v57), .val (.int v58), .val (.int v59), .val (.int v60), .val (.int v61), .val (.ref b206), .val (.ref b220), .val (.long v67), .second, .val (.long v68), .second, .val (.int v70), .val (.int v72), .val (.int v74), .val (.int v76), .val (.int v78), .val (.int v83), .unset] [(.int (lcmpW (v66 63) (0 : Int64)))])) (g' := (mkF m 320 #[.val (.int p0), .val (.int p1), .val (.int p2), .val (.int p3), .val (.long q4), .second, .val (.long q5), .second, .val (.int v1), .val (.long v55), .second, .val (.int v56), .val (.int v57), .val (.int v58), .val (.int v59), .val (.int v60), .val (.int v61), .val (.ref b206), .val (.ref b220), .val (.long v67), .second, .val (.long v68), .second, .val (.int v70), .val (.int v72), .val (.int v74), .val (.int v76), .val (.int v78), .val (.int v83), .unset] [(.int v85)])) X269 (by
      by_cases hc312_84 : (v66 63) = (0 : Int64)
      · have hgo271 : ∀ t, Steps p.tables e below (T269.setTop (mkF m 320 #[.val (.int p0), .val (.int p1), .val (.int p2), .val (.int p3), .val (.long q4), .second, .val (.long q5), .second, .val (.int v1), .val (.long v55), .second, .val (.int v56), .val (.int v57), .val (.int v58), .val (.int v59), .val (.int v60), .val (.int v61), .val (.ref b206), .val (.ref b220), .val (.long v67), .second, .val (.long v68), .second, .val (.int v70), .val (.int v72), .val (.int v74), .val (.int v76), .val (.int v78), .val (.int v83), .unset] [(.int (1 : Int32))])) t → Steps p.tables e below (T269.setTop (mkF m 312 #[.val (.int p0), .val (.int p1), .val (.int p2), .val (.int p3), .val (.long q4), .second, .val (.long q5), .second, .val (.int v1), .val (.long v55), .second, .val (.int v56), .val (.int v57), .val (.int v58), .val (.int v59), .val (.int v60), .val (.int v61), .val (.ref b206), .val (.ref b220), .val (.long v67), .second, .val (.long v68), .second, .val (.int v70), .val (.int v72), .val (.int v74), .val (.int v76), .val (.int v78), .val (.int v83), .unset] [(.int (lcmpW (v66 63) (0 : Int64)))])) t := by
          intro t kt
          show Steps p.tables e below (T269.setTop (mkF m 312 #[.val (.int p0), .val (.int p1), .val (.int p2), .val (.int p3), .val (.long q4), .second, .val (.long q5), .second, .val (.int v1), .val (.long v55), .second, .val (.int v56), .val (.int v57), .val (.int v58), .val (.int v59), .val (.int v60), .val (.int v61), .val (.ref b206), .val (.ref b220), .val (.long v67), .second, .val (.long v68), .second, .val (.int v70), .val (.int v72), .val (.int v74), .val (.int v76), .val (.int v78), .val (.int v83), .unset] [(.int (lcmpW (v66 63) (0 : Int64)))])) _
          refine XS.ifNo X269.here hx rfl (hb hby at_312) rfl ((if0 _ _).trans (teq (own_lc_eq hc312_84)).2) ?_
          show Steps p.tables e below (T269.setTop (mkF m 315 #[.val (.int p0), .val (.int p1), .val (.int p2), .val (.int p3), .val (.long q4), .second, .val (.long q5), .second, .val (.int v1), .val (.long v55), .second, .val (.int v56), .val (.int v57), .val (.int v58), .val (.int v59), .val (.int v60), .val (.int v61), .val (.ref b206), .val (.ref b220), .val (.long v67), .second, .val (.long v68), .second, .val (.int v70), .val (.int v72), .val (.int v74), .val (.int v76), .val (.int v78), .val (.int v83), .unset] [])) _
          refine XS.iconst X269.here hx rfl (hb hby at_315) ?_
          show Steps p.tables e below (T269.setTop (mkF m 316 #[.val (.int p0), .val (.int p1), .val (.int p2), .val (.int p3), .val (.long q4), .second, .val (.long q5), .second, .val (.int v1), .val (.long v55), .second, .val (.int v56), .val (.int v57), .val (.int v58), .val (.int v59), .val (.int v60), .val (.int v61), .val (.ref b206), .val (.ref b220), .val (.long v67), .second, .val (.long v68), .second, .val (.int v70), .val (.int v72), .val (.int v74), .val (.int v76), .val (.int v78), .val (.int v83), .unset] [(.int (1 : Int32))])) _
          refine XS.goto X269.here hx rfl (pc0 := 316) (pc' := 320) rfl (hb hby at_316) (by decide) (by decide) ?_
          exact kt
        refine own_arm hgo271 ?_
        exact own_armEnd X269 N269 e269 (by rw [hv85.trans (if_pos hc312_84)])
      · have hgo272 : ∀ t, Steps p.tables e below (T269.setTop (mkF m 320 #[.val (.int p0), .val (.int p1), .val (.int p2), .val (.int p3), .val (.long q4), .second, .val (.long q5), .second, .val (.int v1), .val (.long v55), .second, .val (.int v56), .val (.int v57), .val (.int v58), .val (.int v59), .val (.int v60), .val (.int v61), .val (.ref b206), .val (.ref b220), .val (.long v67), .second, .val (.long v68), .second, .val (.int v70), .val (.int v72), .val (.int v74), .val (.int v76), .val (.int v78), .val (.int v83), .unset] [(.int (0 : Int32))])) t → Steps p.tables e below (T269.setTop (mkF m 312 #[.val (.int p0), .val (.int p1), .val (.int p2), .val (.int p3), .val (.long q4), .second, .val (.long q5), .second, .val (.int v1), .val (.long v55), .second, .val (.int v56), .val (.int v57), .val (.int v58), .val (.int v59), .val (.int v60), .val (.int v61), .val (.ref b206), .val (.ref b220), .val (.long v67), .second, .val (.long v68), .second, .val (.int v70), .val (.int v72), .val (.int v74), .val (.int v76), .val (.int v78), .val (.int v83), .unset] [(.int (lcmpW (v66 63) (0 : Int64)))])) t := by
          intro t kt
          show Steps p.tables e below (T269.setTop (mkF m 312 #[.val (.int p0), .val (.int p1), .val (.int p2), .val (.int p3), .val (.long q4), .second, .val (.long q5), .second, .val (.int v1), .val (.long v55), .second, .val (.int v56), .val (.int v57), .val (.int v58), .val (.int v59), .val (.int v60), .val (.int v61), .val (.ref b206), .val (.ref b220), .val (.long v67), .second, .val (.long v68), .second, .val (.int v70), .val (.int v72), .val (.int v74), .val (.int v76), .val (.int v78), .val (.int v83), .unset] [(.int (lcmpW (v66 63) (0 : Int64)))])) _
          refine XS.ifYes X269.here hx rfl (pc0 := 312) (pc' := 319) rfl (hb hby at_312) rfl ((if0 _ _).trans (feq (own_lc_neq hc312_84)).2) (by decide) (by decide) ?_
          show Steps p.tables e below (T269.setTop (mkF m 319 #[.val (.int p0), .val (.int p1), .val (.int p2), .val (.int p3), .val (.long q4), .second, .val (.long q5), .second, .val (.int v1), .val (.long v55), .second, .val (.int v56), .val (.int v57), .val (.int v58), .val (.int v59), .val (.int v60), .val (.int v61), .val (.ref b206), .val (.ref b220), .val (.long v67), .second, .val (.long v68), .second, .val (.int v70), .val (.int v72), .val (.int v74), .val (.int v76), .val (.int v78), .val (.int v83), .unset] [])) _
          refine XS.iconst X269.here hx rfl (hb hby at_319) ?_
          exact kt
        refine own_arm hgo272 ?_
        exact own_armEnd X269 N269 e269 (by rw [hv85.trans (if_neg hc312_84)]))
    obtain ⟨v93, hv93⟩ : ∃ z : Int32, z = (if v85 = (0 : Int32) then (0 : Int32) else (1 : Int32)) := ⟨_, rfl⟩
    obtain ⟨v94, hv94⟩ : ∃ z : Int32, z = (if v83 = (0 : Int32) then (0 : Int32) else v93) := ⟨_, rfl⟩
    obtain ⟨v95, hv95⟩ : ∃ z : Int32, z = (if v78 = (0 : Int32) then (0 : Int32) else v94) := ⟨_, rfl⟩
    obtain ⟨v96, hv96⟩ : ∃ z : Int32, z = (if v76 = (0 : Int32) then (0 : Int32) else v95) := ⟨_, rfl⟩
    obtain ⟨v97, hv97⟩ : ∃ z : Int32, z = (if v74 = (0 : Int32) then (0 : Int32) else v96) := ⟨_, rfl⟩
    obtain ⟨v98, hv98⟩ : ∃ z : Int32, z = (if v72 = (0 : Int32) then (0 : Int32) else v97) := ⟨_, rfl⟩
    obtain ⟨v99, hv99⟩ : ∃ z : Int32, z = (if v70 = (0 : Int32) then (0 : Int32) else v98) := ⟨_, rfl⟩
    obtain ⟨T294, lc294, X294, N294, e294, st294⟩ := own_mrg (n0 := n0) (h := T237.heap) (g := (mkF m 324 #[.val (.int p0), .val (.int p1), .val (.int p2), .val (.int p3), .val (.long q4), .second, .val (.long q5), .second, .val (.int v1), .val (.long v55), .second, .val (.int v56), .val (.int v57), .val (.int v58), .val (.int v59), .val (.int v60), .val (.int v61), .val (.ref b206), .val (.ref b220), .val (.long v67), .second, .val (.long v68), .second, .val (.int v70), .val (.int v72), .val (.int v74), .val (.int v76), .val (.int v78), .val (.int v83), .val (.int v85)] [(.int v70)])) (g' := (mkF m 362 #[.val (.int p0), .val (.int p1), .val (.int p2), .val (.int p3), .val (.long q4), .second, .val (.long q5), .second, .val (.int v1), .val (.long v55), .second, .val (.int v56), .val (.int v57), .val (.int v58), .val (.int v59), .val (.int v60), .val (.int v61), .val (.ref b206), .val (.ref b220), .val (.long v67), .second, .val (.long v68), .second, .val (.int v70), .val (.int v72), .val (.int v74), .val (.int v76), .val (.int v78), .val (.int v83), .val (.int v85)] [(.int v99)])) X273 (by
      by_cases hc324_86 : v70 = (0 : Int32)
      · have hgo274 : ∀ t, Steps p.tables e below (T273.setTop (mkF m 362 #[.val (.int p0), .val (.int p1), .val (.int p2), .val (.int p3), .val (.long q4), .second, .val (.long q5), .second, .val (.int v1), .val (.long v55), .second, .val (.int v56), .val (.int v57), .val (.int v58), .val (.int v59), .val (.int v60), .val (.int v61), .val (.ref b206), .val (.ref b220), .val (.long v67), .second, .val (.long v68), .second, .val (.int v70), .val (.int v72), .val (.int v74), .val (.int v76), .val (.int v78), .val (.int v83), .val (.int v85)] [(.int (0 : Int32))])) t → Steps p.tables e below (T273.setTop (mkF m 324 #[.val (.int p0), .val (.int p1), .val (.int p2), .val (.int p3), .val (.long q4), .second, .val (.long q5), .second, .val (.int v1), .val (.long v55), .second, .val (.int v56), .val (.int v57), .val (.int v58), .val (.int v59), .val (.int v60), .val (.int v61), .val (.ref b206), .val (.ref b220), .val (.long v67), .second, .val (.long v68), .second, .val (.int v70), .val (.int v72), .val (.int v74), .val (.int v76), .val (.int v78), .val (.int v83), .val (.int v85)] [(.int v70)])) t := by
          intro t kt
          show Steps p.tables e below (T273.setTop (mkF m 324 #[.val (.int p0), .val (.int p1), .val (.int p2), .val (.int p3), .val (.long q4), .second, .val (.long q5), .second, .val (.int v1), .val (.long v55), .second, .val (.int v56), .val (.int v57), .val (.int v58), .val (.int v59), .val (.int v60), .val (.int v61), .val (.ref b206), .val (.ref b220), .val (.long v67), .second, .val (.long v68), .second, .val (.int v70), .val (.int v72), .val (.int v74), .val (.int v76), .val (.int v78), .val (.int v83), .val (.int v85)] [(.int v70)])) _
          refine XS.ifYes X273.here hx rfl (pc0 := 324) (pc' := 361) rfl (hb hby at_324) rfl ((if0 _ _).trans (teq hc324_86).1) (by decide) (by decide) ?_
          show Steps p.tables e below (T273.setTop (mkF m 361 #[.val (.int p0), .val (.int p1), .val (.int p2), .val (.int p3), .val (.long q4), .second, .val (.long q5), .second, .val (.int v1), .val (.long v55), .second, .val (.int v56), .val (.int v57), .val (.int v58), .val (.int v59), .val (.int v60), .val (.int v61), .val (.ref b206), .val (.ref b220), .val (.long v67), .second, .val (.long v68), .second, .val (.int v70), .val (.int v72), .val (.int v74), .val (.int v76), .val (.int v78), .val (.int v83), .val (.int v85)] [])) _
          refine XS.iconst X273.here hx rfl (hb hby at_361) ?_
          exact kt
        refine own_arm hgo274 ?_
        exact own_armEnd X273 N273 e273 (by rw [hv99.trans (if_pos hc324_86)])
      · obtain ⟨T292, lc292, X292, N292, e292, st292⟩ := own_mrg (n0 := n0) (h := T237.heap) (g := (mkF m 329 #[.val (.int p0), .val (.int p1), .val (.int p2), .val (.int p3), .val (.long q4), .second, .val (.long q5), .second, .val (.int v1), .val (.long v55), .second, .val (.int v56), .val (.int v57), .val (.int v58), .val (.int v59), .val (.int v60), .val (.int v61), .val (.ref b206), .val (.ref b220), .val (.long v67), .second, .val (.long v68), .second, .val (.int v70), .val (.int v72), .val (.int v74), .val (.int v76), .val (.int v78), .val (.int v83), .val (.int v85)] [(.int v72)])) (g' := (mkF m 362 #[.val (.int p0), .val (.int p1), .val (.int p2), .val (.int p3), .val (.long q4), .second, .val (.long q5), .second, .val (.int v1), .val (.long v55), .second, .val (.int v56), .val (.int v57), .val (.int v58), .val (.int v59), .val (.int v60), .val (.int v61), .val (.ref b206), .val (.ref b220), .val (.long v67), .second, .val (.long v68), .second, .val (.int v70), .val (.int v72), .val (.int v74), .val (.int v76), .val (.int v78), .val (.int v83), .val (.int v85)] [(.int v98)])) X273 (by
          by_cases hc329_87 : v72 = (0 : Int32)
          · have hgo275 : ∀ t, Steps p.tables e below (T273.setTop (mkF m 362 #[.val (.int p0), .val (.int p1), .val (.int p2), .val (.int p3), .val (.long q4), .second, .val (.long q5), .second, .val (.int v1), .val (.long v55), .second, .val (.int v56), .val (.int v57), .val (.int v58), .val (.int v59), .val (.int v60), .val (.int v61), .val (.ref b206), .val (.ref b220), .val (.long v67), .second, .val (.long v68), .second, .val (.int v70), .val (.int v72), .val (.int v74), .val (.int v76), .val (.int v78), .val (.int v83), .val (.int v85)] [(.int (0 : Int32))])) t → Steps p.tables e below (T273.setTop (mkF m 329 #[.val (.int p0), .val (.int p1), .val (.int p2), .val (.int p3), .val (.long q4), .second, .val (.long q5), .second, .val (.int v1), .val (.long v55), .second, .val (.int v56), .val (.int v57), .val (.int v58), .val (.int v59), .val (.int v60), .val (.int v61), .val (.ref b206), .val (.ref b220), .val (.long v67), .second, .val (.long v68), .second, .val (.int v70), .val (.int v72), .val (.int v74), .val (.int v76), .val (.int v78), .val (.int v83), .val (.int v85)] [(.int v72)])) t := by
              intro t kt
              show Steps p.tables e below (T273.setTop (mkF m 329 #[.val (.int p0), .val (.int p1), .val (.int p2), .val (.int p3), .val (.long q4), .second, .val (.long q5), .second, .val (.int v1), .val (.long v55), .second, .val (.int v56), .val (.int v57), .val (.int v58), .val (.int v59), .val (.int v60), .val (.int v61), .val (.ref b206), .val (.ref b220), .val (.long v67), .second, .val (.long v68), .second, .val (.int v70), .val (.int v72), .val (.int v74), .val (.int v76), .val (.int v78), .val (.int v83), .val (.int v85)] [(.int v72)])) _
              refine XS.ifYes X273.here hx rfl (pc0 := 329) (pc' := 361) rfl (hb hby at_329) rfl ((if0 _ _).trans (teq hc329_87).1) (by decide) (by decide) ?_
              show Steps p.tables e below (T273.setTop (mkF m 361 #[.val (.int p0), .val (.int p1), .val (.int p2), .val (.int p3), .val (.long q4), .second, .val (.long q5), .second, .val (.int v1), .val (.long v55), .second, .val (.int v56), .val (.int v57), .val (.int v58), .val (.int v59), .val (.int v60), .val (.int v61), .val (.ref b206), .val (.ref b220), .val (.long v67), .second, .val (.long v68), .second, .val (.int v70), .val (.int v72), .val (.int v74), .val (.int v76), .val (.int v78), .val (.int v83), .val (.int v85)] [])) _
              refine XS.iconst X273.here hx rfl (hb hby at_361) ?_
              exact kt
            refine own_arm hgo275 ?_
            exact own_armEnd X273 N273 e273 (by rw [hv98.trans (if_pos hc329_87)])
          · obtain ⟨T290, lc290, X290, N290, e290, st290⟩ := own_mrg (n0 := n0) (h := T237.heap) (g := (mkF m 334 #[.val (.int p0), .val (.int p1), .val (.int p2), .val (.int p3), .val (.long q4), .second, .val (.long q5), .second, .val (.int v1), .val (.long v55), .second, .val (.int v56), .val (.int v57), .val (.int v58), .val (.int v59), .val (.int v60), .val (.int v61), .val (.ref b206), .val (.ref b220), .val (.long v67), .second, .val (.long v68), .second, .val (.int v70), .val (.int v72), .val (.int v74), .val (.int v76), .val (.int v78), .val (.int v83), .val (.int v85)] [(.int v74)])) (g' := (mkF m 362 #[.val (.int p0), .val (.int p1), .val (.int p2), .val (.int p3), .val (.long q4), .second, .val (.long q5), .second, .val (.int v1), .val (.long v55), .second, .val (.int v56), .val (.int v57), .val (.int v58), .val (.int v59), .val (.int v60), .val (.int v61), .val (.ref b206), .val (.ref b220), .val (.long v67), .second, .val (.long v68), .second, .val (.int v70), .val (.int v72), .val (.int v74), .val (.int v76), .val (.int v78), .val (.int v83), .val (.int v85)] [(.int v97)])) X273 (by
              by_cases hc334_88 : v74 = (0 : Int32)
              · have hgo276 : ∀ t, Steps p.tables e below (T273.setTop (mkF m 362 #[.val (.int p0), .val (.int p1), .val (.int p2), .val (.int p3), .val (.long q4), .second, .val (.long q5), .second, .val (.int v1), .val (.long v55), .second, .val (.int v56), .val (.int v57), .val (.int v58), .val (.int v59), .val (.int v60), .val (.int v61), .val (.ref b206), .val (.ref b220), .val (.long v67), .second, .val (.long v68), .second, .val (.int v70), .val (.int v72), .val (.int v74), .val (.int v76), .val (.int v78), .val (.int v83), .val (.int v85)] [(.int (0 : Int32))])) t → Steps p.tables e below (T273.setTop (mkF m 334 #[.val (.int p0), .val (.int p1), .val (.int p2), .val (.int p3), .val (.long q4), .second, .val (.long q5), .second, .val (.int v1), .val (.long v55), .second, .val (.int v56), .val (.int v57), .val (.int v58), .val (.int v59), .val (.int v60), .val (.int v61), .val (.ref b206), .val (.ref b220), .val (.long v67), .second, .val (.long v68), .second, .val (.int v70), .val (.int v72), .val (.int v74), .val (.int v76), .val (.int v78), .val (.int v83), .val (.int v85)] [(.int v74)])) t := by
                  intro t kt
                  show Steps p.tables e below (T273.setTop (mkF m 334 #[.val (.int p0), .val (.int p1), .val (.int p2), .val (.int p3), .val (.long q4), .second, .val (.long q5), .second, .val (.int v1), .val (.long v55), .second, .val (.int v56), .val (.int v57), .val (.int v58), .val (.int v59), .val (.int v60), .val (.int v61), .val (.ref b206), .val (.ref b220), .val (.long v67), .second, .val (.long v68), .second, .val (.int v70), .val (.int v72), .val (.int v74), .val (.int v76), .val (.int v78), .val (.int v83), .val (.int v85)] [(.int v74)])) _
                  refine XS.ifYes X273.here hx rfl (pc0 := 334) (pc' := 361) rfl (hb hby at_334) rfl ((if0 _ _).trans (teq hc334_88).1) (by decide) (by decide) ?_
                  show Steps p.tables e below (T273.setTop (mkF m 361 #[.val (.int p0), .val (.int p1), .val (.int p2), .val (.int p3), .val (.long q4), .second, .val (.long q5), .second, .val (.int v1), .val (.long v55), .second, .val (.int v56), .val (.int v57), .val (.int v58), .val (.int v59), .val (.int v60), .val (.int v61), .val (.ref b206), .val (.ref b220), .val (.long v67), .second, .val (.long v68), .second, .val (.int v70), .val (.int v72), .val (.int v74), .val (.int v76), .val (.int v78), .val (.int v83), .val (.int v85)] [])) _
                  refine XS.iconst X273.here hx rfl (hb hby at_361) ?_
                  exact kt
                refine own_arm hgo276 ?_
                exact own_armEnd X273 N273 e273 (by rw [hv97.trans (if_pos hc334_88)])
              · obtain ⟨T288, lc288, X288, N288, e288, st288⟩ := own_mrg (n0 := n0) (h := T237.heap) (g := (mkF m 339 #[.val (.int p0), .val (.int p1), .val (.int p2), .val (.int p3), .val (.long q4), .second, .val (.long q5), .second, .val (.int v1), .val (.long v55), .second, .val (.int v56), .val (.int v57), .val (.int v58), .val (.int v59), .val (.int v60), .val (.int v61), .val (.ref b206), .val (.ref b220), .val (.long v67), .second, .val (.long v68), .second, .val (.int v70), .val (.int v72), .val (.int v74), .val (.int v76), .val (.int v78), .val (.int v83), .val (.int v85)] [(.int v76)])) (g' := (mkF m 362 #[.val (.int p0), .val (.int p1), .val (.int p2), .val (.int p3), .val (.long q4), .second, .val (.long q5), .second, .val (.int v1), .val (.long v55), .second, .val (.int v56), .val (.int v57), .val (.int v58), .val (.int v59), .val (.int v60), .val (.int v61), .val (.ref b206), .val (.ref b220), .val (.long v67), .second, .val (.long v68), .second, .val (.int v70), .val (.int v72), .val (.int v74), .val (.int v76), .val (.int v78), .val (.int v83), .val (.int v85)] [(.int v96)])) X273 (by
                  by_cases hc339_89 : v76 = (0 : Int32)
                  · have hgo277 : ∀ t, Steps p.tables e below (T273.setTop (mkF m 362 #[.val (.int p0), .val (.int p1), .val (.int p2), .val (.int p3), .val (.long q4), .second, .val (.long q5), .second, .val (.int v1), .val (.long v55), .second, .val (.int v56), .val (.int v57), .val (.int v58), .val (.int v59), .val (.int v60), .val (.int v61), .val (.ref b206), .val (.ref b220), .val (.long v67), .second, .val (.long v68), .second, .val (.int v70), .val (.int v72), .val (.int v74), .val (.int v76), .val (.int v78), .val (.int v83), .val (.int v85)] [(.int (0 : Int32))])) t → Steps p.tables e below (T273.setTop (mkF m 339 #[.val (.int p0), .val (.int p1), .val (.int p2), .val (.int p3), .val (.long q4), .second, .val (.long q5), .second, .val (.int v1), .val (.long v55), .second, .val (.int v56), .val (.int v57), .val (.int v58), .val (.int v59), .val (.int v60), .val (.int v61), .val (.ref b206), .val (.ref b220), .val (.long v67), .second, .val (.long v68), .second, .val (.int v70), .val (.int v72), .val (.int v74), .val (.int v76), .val (.int v78), .val (.int v83), .val (.int v85)] [(.int v76)])) t := by
                      intro t kt
                      show Steps p.tables e below (T273.setTop (mkF m 339 #[.val (.int p0), .val (.int p1), .val (.int p2), .val (.int p3), .val (.long q4), .second, .val (.long q5), .second, .val (.int v1), .val (.long v55), .second, .val (.int v56), .val (.int v57), .val (.int v58), .val (.int v59), .val (.int v60), .val (.int v61), .val (.ref b206), .val (.ref b220), .val (.long v67), .second, .val (.long v68), .second, .val (.int v70), .val (.int v72), .val (.int v74), .val (.int v76), .val (.int v78), .val (.int v83), .val (.int v85)] [(.int v76)])) _
                      refine XS.ifYes X273.here hx rfl (pc0 := 339) (pc' := 361) rfl (hb hby at_339) rfl ((if0 _ _).trans (teq hc339_89).1) (by decide) (by decide) ?_
                      show Steps p.tables e below (T273.setTop (mkF m 361 #[.val (.int p0), .val (.int p1), .val (.int p2), .val (.int p3), .val (.long q4), .second, .val (.long q5), .second, .val (.int v1), .val (.long v55), .second, .val (.int v56), .val (.int v57), .val (.int v58), .val (.int v59), .val (.int v60), .val (.int v61), .val (.ref b206), .val (.ref b220), .val (.long v67), .second, .val (.long v68), .second, .val (.int v70), .val (.int v72), .val (.int v74), .val (.int v76), .val (.int v78), .val (.int v83), .val (.int v85)] [])) _
                      refine XS.iconst X273.here hx rfl (hb hby at_361) ?_
                      exact kt
                    refine own_arm hgo277 ?_
                    exact own_armEnd X273 N273 e273 (by rw [hv96.trans (if_pos hc339_89)])
                  · obtain ⟨T286, lc286, X286, N286, e286, st286⟩ := own_mrg (n0 := n0) (h := T237.heap) (g := (mkF m 344 #[.val (.int p0), .val (.int p1), .val (.int p2), .val (.int p3), .val (.long q4), .second, .val (.long q5), .second, .val (.int v1), .val (.long v55), .second, .val (.int v56), .val (.int v57), .val (.int v58), .val (.int v59), .val (.int v60), .val (.int v61), .val (.ref b206), .val (.ref b220), .val (.long v67), .second, .val (.long v68), .second, .val (.int v70), .val (.int v72), .val (.int v74), .val (.int v76), .val (.int v78), .val (.int v83), .val (.int v85)] [(.int v78)])) (g' := (mkF m 362 #[.val (.int p0), .val (.int p1), .val (.int p2), .val (.int p3), .val (.long q4), .second, .val (.long q5), .second, .val (.int v1), .val (.long v55), .second, .val (.int v56), .val (.int v57), .val (.int v58), .val (.int v59), .val (.int v60), .val (.int v61), .val (.ref b206), .val (.ref b220), .val (.long v67), .second, .val (.long v68), .second, .val (.int v70), .val (.int v72), .val (.int v74), .val (.int v76), .val (.int v78), .val (.int v83), .val (.int v85)] [(.int v95)])) X273 (by
                      by_cases hc344_90 : v78 = (0 : Int32)
                      · have hgo278 : ∀ t, Steps p.tables e below (T273.setTop (mkF m 362 #[.val (.int p0), .val (.int p1), .val (.int p2), .val (.int p3), .val (.long q4), .second, .val (.long q5), .second, .val (.int v1), .val (.long v55), .second, .val (.int v56), .val (.int v57), .val (.int v58), .val (.int v59), .val (.int v60), .val (.int v61), .val (.ref b206), .val (.ref b220), .val (.long v67), .second, .val (.long v68), .second, .val (.int v70), .val (.int v72), .val (.int v74), .val (.int v76), .val (.int v78), .val (.int v83), .val (.int v85)] [(.int (0 : Int32))])) t → Steps p.tables e below (T273.setTop (mkF m 344 #[.val (.int p0), .val (.int p1), .val (.int p2), .val (.int p3), .val (.long q4), .second, .val (.long q5), .second, .val (.int v1), .val (.long v55), .second, .val (.int v56), .val (.int v57), .val (.int v58), .val (.int v59), .val (.int v60), .val (.int v61), .val (.ref b206), .val (.ref b220), .val (.long v67), .second, .val (.long v68), .second, .val (.int v70), .val (.int v72), .val (.int v74), .val (.int v76), .val (.int v78), .val (.int v83), .val (.int v85)] [(.int v78)])) t := by
                          intro t kt
                          show Steps p.tables e below (T273.setTop (mkF m 344 #[.val (.int p0), .val (.int p1), .val (.int p2), .val (.int p3), .val (.long q4), .second, .val (.long q5), .second, .val (.int v1), .val (.long v55), .second, .val (.int v56), .val (.int v57), .val (.int v58), .val (.int v59), .val (.int v60), .val (.int v61), .val (.ref b206), .val (.ref b220), .val (.long v67), .second, .val (.long v68), .second, .val (.int v70), .val (.int v72), .val (.int v74), .val (.int v76), .val (.int v78), .val (.int v83), .val (.int v85)] [(.int v78)])) _
                          refine XS.ifYes X273.here hx rfl (pc0 := 344) (pc' := 361) rfl (hb hby at_344) rfl ((if0 _ _).trans (teq hc344_90).1) (by decide) (by decide) ?_
                          show Steps p.tables e below (T273.setTop (mkF m 361 #[.val (.int p0), .val (.int p1), .val (.int p2), .val (.int p3), .val (.long q4), .second, .val (.long q5), .second, .val (.int v1), .val (.long v55), .second, .val (.int v56), .val (.int v57), .val (.int v58), .val (.int v59), .val (.int v60), .val (.int v61), .val (.ref b206), .val (.ref b220), .val (.long v67), .second, .val (.long v68), .second, .val (.int v70), .val (.int v72), .val (.int v74), .val (.int v76), .val (.int v78), .val (.int v83), .val (.int v85)] [])) _
                          refine XS.iconst X273.here hx rfl (hb hby at_361) ?_
                          exact kt
                        refine own_arm hgo278 ?_
                        exact own_armEnd X273 N273 e273 (by rw [hv95.trans (if_pos hc344_90)])
                      · obtain ⟨T284, lc284, X284, N284, e284, st284⟩ := own_mrg (n0 := n0) (h := T237.heap) (g := (mkF m 349 #[.val (.int p0), .val (.int p1), .val (.int p2), .val (.int p3), .val (.long q4), .second, .val (.long q5), .second, .val (.int v1), .val (.long v55), .second, .val (.int v56), .val (.int v57), .val (.int v58), .val (.int v59), .val (.int v60), .val (.int v61), .val (.ref b206), .val (.ref b220), .val (.long v67), .second, .val (.long v68), .second, .val (.int v70), .val (.int v72), .val (.int v74), .val (.int v76), .val (.int v78), .val (.int v83), .val (.int v85)] [(.int v83)])) (g' := (mkF m 362 #[.val (.int p0), .val (.int p1), .val (.int p2), .val (.int p3), .val (.long q4), .second, .val (.long q5), .second, .val (.int v1), .val (.long v55), .second, .val (.int v56), .val (.int v57), .val (.int v58), .val (.int v59), .val (.int v60), .val (.int v61), .val (.ref b206), .val (.ref b220), .val (.long v67), .second, .val (.long v68), .second, .val (.int v70), .val (.int v72), .val (.int v74), .val (.int v76), .val (.int v78), .val (.int v83), .val (.int v85)] [(.int v94)])) X273 (by
                          by_cases hc349_91 : v83 = (0 : Int32)
                          · have hgo279 : ∀ t, Steps p.tables e below (T273.setTop (mkF m 362 #[.val (.int p0), .val (.int p1), .val (.int p2), .val (.int p3), .val (.long q4), .second, .val (.long q5), .second, .val (.int v1), .val (.long v55), .second, .val (.int v56), .val (.int v57), .val (.int v58), .val (.int v59), .val (.int v60), .val (.int v61), .val (.ref b206), .val (.ref b220), .val (.long v67), .second, .val (.long v68), .second, .val (.int v70), .val (.int v72), .val (.int v74), .val (.int v76), .val (.int v78), .val (.int v83), .val (.int v85)] [(.int (0 : Int32))])) t → Steps p.tables e below (T273.setTop (mkF m 349 #[.val (.int p0), .val (.int p1), .val (.int p2), .val (.int p3), .val (.long q4), .second, .val (.long q5), .second, .val (.int v1), .val (.long v55), .second, .val (.int v56), .val (.int v57), .val (.int v58), .val (.int v59), .val (.int v60), .val (.int v61), .val (.ref b206), .val (.ref b220), .val (.long v67), .second, .val (.long v68), .second, .val (.int v70), .val (.int v72), .val (.int v74), .val (.int v76), .val (.int v78), .val (.int v83), .val (.int v85)] [(.int v83)])) t := by
                              intro t kt
                              show Steps p.tables e below (T273.setTop (mkF m 349 #[.val (.int p0), .val (.int p1), .val (.int p2), .val (.int p3), .val (.long q4), .second, .val (.long q5), .second, .val (.int v1), .val (.long v55), .second, .val (.int v56), .val (.int v57), .val (.int v58), .val (.int v59), .val (.int v60), .val (.int v61), .val (.ref b206), .val (.ref b220), .val (.long v67), .second, .val (.long v68), .second, .val (.int v70), .val (.int v72), .val (.int v74), .val (.int v76), .val (.int v78), .val (.int v83), .val (.int v85)] [(.int v83)])) _
                              refine XS.ifYes X273.here hx rfl (pc0 := 349) (pc' := 361) rfl (hb hby at_349) rfl ((if0 _ _).trans (teq hc349_91).1) (by decide) (by decide) ?_
                              show Steps p.tables e below (T273.setTop (mkF m 361 #[.val (.int p0), .val (.int p1), .val (.int p2), .val (.int p3), .val (.long q4), .second, .val (.long q5), .second, .val (.int v1), .val (.long v55), .second, .val (.int v56), .val (.int v57), .val (.int v58), .val (.int v59), .val (.int v60), .val (.int v61), .val (.ref b206), .val (.ref b220), .val (.long v67), .second, .val (.long v68), .second, .val (.int v70), .val (.int v72), .val (.int v74), .val (.int v76), .val (.int v78), .val (.int v83), .val (.int v85)] [])) _
                              refine XS.iconst X273.here hx rfl (hb hby at_361) ?_
                              exact kt
                            refine own_arm hgo279 ?_
                            exact own_armEnd X273 N273 e273 (by rw [hv94.trans (if_pos hc349_91)])
                          · obtain ⟨T282, lc282, X282, N282, e282, st282⟩ := own_mrg (n0 := n0) (h := T237.heap) (g := (mkF m 354 #[.val (.int p0), .val (.int p1), .val (.int p2), .val (.int p3), .val (.long q4), .second, .val (.long q5), .second, .val (.int v1), .val (.long v55), .second, .val (.int v56), .val (.int v57), .val (.int v58), .val (.int v59), .val (.int v60), .val (.int v61), .val (.ref b206), .val (.ref b220), .val (.long v67), .second, .val (.long v68), .second, .val (.int v70), .val (.int v72), .val (.int v74), .val (.int v76), .val (.int v78), .val (.int v83), .val (.int v85)] [(.int v85)])) (g' := (mkF m 362 #[.val (.int p0), .val (.int p1), .val (.int p2), .val (.int p3), .val (.long q4), .second, .val (.long q5), .second, .val (.int v1), .val (.long v55), .second, .val (.int v56), .val (.int v57), .val (.int v58), .val (.int v59), .val (.int v60), .val (.int v61), .val (.ref b206), .val (.ref b220), .val (.long v67), .second, .val (.long v68), .second, .val (.int v70), .val (.int v72), .val (.int v74), .val (.int v76), .val (.int v78), .val (.int v83), .val (.int v85)] [(.int v93)])) X273 (by
                              by_cases hc354_92 : v85 = (0 : Int32)
                              · have hgo280 : ∀ t, Steps p.tables e below (T273.setTop (mkF m 362 #[.val (.int p0), .val (.int p1), .val (.int p2), .val (.int p3), .val (.long q4), .second, .val (.long q5), .second, .val (.int v1), .val (.long v55), .second, .val (.int v56), .val (.int v57), .val (.int v58), .val (.int v59), .val (.int v60), .val (.int v61), .val (.ref b206), .val (.ref b220), .val (.long v67), .second, .val (.long v68), .second, .val (.int v70), .val (.int v72), .val (.int v74), .val (.int v76), .val (.int v78), .val (.int v83), .val (.int v85)] [(.int (0 : Int32))])) t → Steps p.tables e below (T273.setTop (mkF m 354 #[.val (.int p0), .val (.int p1), .val (.int p2), .val (.int p3), .val (.long q4), .second, .val (.long q5), .second, .val (.int v1), .val (.long v55), .second, .val (.int v56), .val (.int v57), .val (.int v58), .val (.int v59), .val (.int v60), .val (.int v61), .val (.ref b206), .val (.ref b220), .val (.long v67), .second, .val (.long v68), .second, .val (.int v70), .val (.int v72), .val (.int v74), .val (.int v76), .val (.int v78), .val (.int v83), .val (.int v85)] [(.int v85)])) t := by
                                  intro t kt
                                  show Steps p.tables e below (T273.setTop (mkF m 354 #[.val (.int p0), .val (.int p1), .val (.int p2), .val (.int p3), .val (.long q4), .second, .val (.long q5), .second, .val (.int v1), .val (.long v55), .second, .val (.int v56), .val (.int v57), .val (.int v58), .val (.int v59), .val (.int v60), .val (.int v61), .val (.ref b206), .val (.ref b220), .val (.long v67), .second, .val (.long v68), .second, .val (.int v70), .val (.int v72), .val (.int v74), .val (.int v76), .val (.int v78), .val (.int v83), .val (.int v85)] [(.int v85)])) _
                                  refine XS.ifYes X273.here hx rfl (pc0 := 354) (pc' := 361) rfl (hb hby at_354) rfl ((if0 _ _).trans (teq hc354_92).1) (by decide) (by decide) ?_
                                  show Steps p.tables e below (T273.setTop (mkF m 361 #[.val (.int p0), .val (.int p1), .val (.int p2), .val (.int p3), .val (.long q4), .second, .val (.long q5), .second, .val (.int v1), .val (.long v55), .second, .val (.int v56), .val (.int v57), .val (.int v58), .val (.int v59), .val (.int v60), .val (.int v61), .val (.ref b206), .val (.ref b220), .val (.long v67), .second, .val (.long v68), .second, .val (.int v70), .val (.int v72), .val (.int v74), .val (.int v76), .val (.int v78), .val (.int v83), .val (.int v85)] [])) _
                                  refine XS.iconst X273.here hx rfl (hb hby at_361) ?_
                                  exact kt
                                refine own_arm hgo280 ?_
                                exact own_armEnd X273 N273 e273 (by rw [hv93.trans (if_pos hc354_92)])
                              · have hgo281 : ∀ t, Steps p.tables e below (T273.setTop (mkF m 362 #[.val (.int p0), .val (.int p1), .val (.int p2), .val (.int p3), .val (.long q4), .second, .val (.long q5), .second, .val (.int v1), .val (.long v55), .second, .val (.int v56), .val (.int v57), .val (.int v58), .val (.int v59), .val (.int v60), .val (.int v61), .val (.ref b206), .val (.ref b220), .val (.long v67), .second, .val (.long v68), .second, .val (.int v70), .val (.int v72), .val (.int v74), .val (.int v76), .val (.int v78), .val (.int v83), .val (.int v85)] [(.int (1 : Int32))])) t → Steps p.tables e below (T273.setTop (mkF m 354 #[.val (.int p0), .val (.int p1), .val (.int p2), .val (.int p3), .val (.long q4), .second, .val (.long q5), .second, .val (.int v1), .val (.long v55), .second, .val (.int v56), .val (.int v57), .val (.int v58), .val (.int v59), .val (.int v60), .val (.int v61), .val (.ref b206), .val (.ref b220), .val (.long v67), .second, .val (.long v68), .second, .val (.int v70), .val (.int v72), .val (.int v74), .val (.int v76), .val (.int v78), .val (.int v83), .val (.int v85)] [(.int v85)])) t := by
                                  intro t kt
                                  show Steps p.tables e below (T273.setTop (mkF m 354 #[.val (.int p0), .val (.int p1), .val (.int p2), .val (.int p3), .val (.long q4), .second, .val (.long q5), .second, .val (.int v1), .val (.long v55), .second, .val (.int v56), .val (.int v57), .val (.int v58), .val (.int v59), .val (.int v60), .val (.int v61), .val (.ref b206), .val (.ref b220), .val (.long v67), .second, .val (.long v68), .second, .val (.int v70), .val (.int v72), .val (.int v74), .val (.int v76), .val (.int v78), .val (.int v83), .val (.int v85)] [(.int v85)])) _
                                  refine XS.ifNo X273.here hx rfl (hb hby at_354) rfl ((if0 _ _).trans (feq hc354_92).1) ?_
                                  show Steps p.tables e below (T273.setTop (mkF m 357 #[.val (.int p0), .val (.int p1), .val (.int p2), .val (.int p3), .val (.long q4), .second, .val (.long q5), .second, .val (.int v1), .val (.long v55), .second, .val (.int v56), .val (.int v57), .val (.int v58), .val (.int v59), .val (.int v60), .val (.int v61), .val (.ref b206), .val (.ref b220), .val (.long v67), .second, .val (.long v68), .second, .val (.int v70), .val (.int v72), .val (.int v74), .val (.int v76), .val (.int v78), .val (.int v83), .val (.int v85)] [])) _
                                  refine XS.iconst X273.here hx rfl (hb hby at_357) ?_
                                  show Steps p.tables e below (T273.setTop (mkF m 358 #[.val (.int p0), .val (.int p1), .val (.int p2), .val (.int p3), .val (.long q4), .second, .val (.long q5), .second, .val (.int v1), .val (.long v55), .second, .val (.int v56), .val (.int v57), .val (.int v58), .val (.int v59), .val (.int v60), .val (.int v61), .val (.ref b206), .val (.ref b220), .val (.long v67), .second, .val (.long v68), .second, .val (.int v70), .val (.int v72), .val (.int v74), .val (.int v76), .val (.int v78), .val (.int v83), .val (.int v85)] [(.int (1 : Int32))])) _
                                  refine XS.goto X273.here hx rfl (pc0 := 358) (pc' := 362) rfl (hb hby at_358) (by decide) (by decide) ?_
                                  exact kt
                                refine own_arm hgo281 ?_
                                exact own_armEnd X273 N273 e273 (by rw [hv93.trans (if_neg hc354_92)]))
                            have hgo283 : ∀ t, Steps p.tables e below (T282.setTop (mkF m 362 #[.val (.int p0), .val (.int p1), .val (.int p2), .val (.int p3), .val (.long q4), .second, .val (.long q5), .second, .val (.int v1), .val (.long v55), .second, .val (.int v56), .val (.int v57), .val (.int v58), .val (.int v59), .val (.int v60), .val (.int v61), .val (.ref b206), .val (.ref b220), .val (.long v67), .second, .val (.long v68), .second, .val (.int v70), .val (.int v72), .val (.int v74), .val (.int v76), .val (.int v78), .val (.int v83), .val (.int v85)] [(.int v93)])) t → Steps p.tables e below (T273.setTop (mkF m 349 #[.val (.int p0), .val (.int p1), .val (.int p2), .val (.int p3), .val (.long q4), .second, .val (.long q5), .second, .val (.int v1), .val (.long v55), .second, .val (.int v56), .val (.int v57), .val (.int v58), .val (.int v59), .val (.int v60), .val (.int v61), .val (.ref b206), .val (.ref b220), .val (.long v67), .second, .val (.long v68), .second, .val (.int v70), .val (.int v72), .val (.int v74), .val (.int v76), .val (.int v78), .val (.int v83), .val (.int v85)] [(.int v83)])) t := by
                              intro t kt
                              show Steps p.tables e below (T273.setTop (mkF m 349 #[.val (.int p0), .val (.int p1), .val (.int p2), .val (.int p3), .val (.long q4), .second, .val (.long q5), .second, .val (.int v1), .val (.long v55), .second, .val (.int v56), .val (.int v57), .val (.int v58), .val (.int v59), .val (.int v60), .val (.int v61), .val (.ref b206), .val (.ref b220), .val (.long v67), .second, .val (.long v68), .second, .val (.int v70), .val (.int v72), .val (.int v74), .val (.int v76), .val (.int v78), .val (.int v83), .val (.int v85)] [(.int v83)])) _
                              refine XS.ifNo X273.here hx rfl (hb hby at_349) rfl ((if0 _ _).trans (feq hc349_91).1) ?_
                              show Steps p.tables e below (T273.setTop (mkF m 352 #[.val (.int p0), .val (.int p1), .val (.int p2), .val (.int p3), .val (.long q4), .second, .val (.long q5), .second, .val (.int v1), .val (.long v55), .second, .val (.int v56), .val (.int v57), .val (.int v58), .val (.int v59), .val (.int v60), .val (.int v61), .val (.ref b206), .val (.ref b220), .val (.long v67), .second, .val (.long v68), .second, .val (.int v70), .val (.int v72), .val (.int v74), .val (.int v76), .val (.int v78), .val (.int v83), .val (.int v85)] [])) _
                              refine XS.iload X273.here hx rfl (hb hby at_352) rfl ?_
                              show Steps p.tables e below (T273.setTop (mkF m 354 #[.val (.int p0), .val (.int p1), .val (.int p2), .val (.int p3), .val (.long q4), .second, .val (.long q5), .second, .val (.int v1), .val (.long v55), .second, .val (.int v56), .val (.int v57), .val (.int v58), .val (.int v59), .val (.int v60), .val (.int v61), .val (.ref b206), .val (.ref b220), .val (.long v67), .second, .val (.long v68), .second, .val (.int v70), .val (.int v72), .val (.int v74), .val (.int v76), .val (.int v78), .val (.int v83), .val (.int v85)] [(.int v85)])) _
                              refine st282 _ ?_
                              exact kt
                            refine own_arm hgo283 ?_
                            exact own_armEnd X282 N282 e282 (by rw [hv94.trans (if_neg hc349_91)]))
                        have hgo285 : ∀ t, Steps p.tables e below (T284.setTop (mkF m 362 #[.val (.int p0), .val (.int p1), .val (.int p2), .val (.int p3), .val (.long q4), .second, .val (.long q5), .second, .val (.int v1), .val (.long v55), .second, .val (.int v56), .val (.int v57), .val (.int v58), .val (.int v59), .val (.int v60), .val (.int v61), .val (.ref b206), .val (.ref b220), .val (.long v67), .second, .val (.long v68), .second, .val (.int v70), .val (.int v72), .val (.int v74), .val (.int v76), .val (.int v78), .val (.int v83), .val (.int v85)] [(.int v94)])) t → Steps p.tables e below (T273.setTop (mkF m 344 #[.val (.int p0), .val (.int p1), .val (.int p2), .val (.int p3), .val (.long q4), .second, .val (.long q5), .second, .val (.int v1), .val (.long v55), .second, .val (.int v56), .val (.int v57), .val (.int v58), .val (.int v59), .val (.int v60), .val (.int v61), .val (.ref b206), .val (.ref b220), .val (.long v67), .second, .val (.long v68), .second, .val (.int v70), .val (.int v72), .val (.int v74), .val (.int v76), .val (.int v78), .val (.int v83), .val (.int v85)] [(.int v78)])) t := by
                          intro t kt
                          show Steps p.tables e below (T273.setTop (mkF m 344 #[.val (.int p0), .val (.int p1), .val (.int p2), .val (.int p3), .val (.long q4), .second, .val (.long q5), .second, .val (.int v1), .val (.long v55), .second, .val (.int v56), .val (.int v57), .val (.int v58), .val (.int v59), .val (.int v60), .val (.int v61), .val (.ref b206), .val (.ref b220), .val (.long v67), .second, .val (.long v68), .second, .val (.int v70), .val (.int v72), .val (.int v74), .val (.int v76), .val (.int v78), .val (.int v83), .val (.int v85)] [(.int v78)])) _
                          refine XS.ifNo X273.here hx rfl (hb hby at_344) rfl ((if0 _ _).trans (feq hc344_90).1) ?_
                          show Steps p.tables e below (T273.setTop (mkF m 347 #[.val (.int p0), .val (.int p1), .val (.int p2), .val (.int p3), .val (.long q4), .second, .val (.long q5), .second, .val (.int v1), .val (.long v55), .second, .val (.int v56), .val (.int v57), .val (.int v58), .val (.int v59), .val (.int v60), .val (.int v61), .val (.ref b206), .val (.ref b220), .val (.long v67), .second, .val (.long v68), .second, .val (.int v70), .val (.int v72), .val (.int v74), .val (.int v76), .val (.int v78), .val (.int v83), .val (.int v85)] [])) _
                          refine XS.iload X273.here hx rfl (hb hby at_347) rfl ?_
                          show Steps p.tables e below (T273.setTop (mkF m 349 #[.val (.int p0), .val (.int p1), .val (.int p2), .val (.int p3), .val (.long q4), .second, .val (.long q5), .second, .val (.int v1), .val (.long v55), .second, .val (.int v56), .val (.int v57), .val (.int v58), .val (.int v59), .val (.int v60), .val (.int v61), .val (.ref b206), .val (.ref b220), .val (.long v67), .second, .val (.long v68), .second, .val (.int v70), .val (.int v72), .val (.int v74), .val (.int v76), .val (.int v78), .val (.int v83), .val (.int v85)] [(.int v83)])) _
                          refine st284 _ ?_
                          exact kt
                        refine own_arm hgo285 ?_
                        exact own_armEnd X284 N284 e284 (by rw [hv95.trans (if_neg hc344_90)]))
                    have hgo287 : ∀ t, Steps p.tables e below (T286.setTop (mkF m 362 #[.val (.int p0), .val (.int p1), .val (.int p2), .val (.int p3), .val (.long q4), .second, .val (.long q5), .second, .val (.int v1), .val (.long v55), .second, .val (.int v56), .val (.int v57), .val (.int v58), .val (.int v59), .val (.int v60), .val (.int v61), .val (.ref b206), .val (.ref b220), .val (.long v67), .second, .val (.long v68), .second, .val (.int v70), .val (.int v72), .val (.int v74), .val (.int v76), .val (.int v78), .val (.int v83), .val (.int v85)] [(.int v95)])) t → Steps p.tables e below (T273.setTop (mkF m 339 #[.val (.int p0), .val (.int p1), .val (.int p2), .val (.int p3), .val (.long q4), .second, .val (.long q5), .second, .val (.int v1), .val (.long v55), .second, .val (.int v56), .val (.int v57), .val (.int v58), .val (.int v59), .val (.int v60), .val (.int v61), .val (.ref b206), .val (.ref b220), .val (.long v67), .second, .val (.long v68), .second, .val (.int v70), .val (.int v72), .val (.int v74), .val (.int v76), .val (.int v78), .val (.int v83), .val (.int v85)] [(.int v76)])) t := by
                      intro t kt
                      show Steps p.tables e below (T273.setTop (mkF m 339 #[.val (.int p0), .val (.int p1), .val (.int p2), .val (.int p3), .val (.long q4), .second, .val (.long q5), .second, .val (.int v1), .val (.long v55), .second, .val (.int v56), .val (.int v57), .val (.int v58), .val (.int v59), .val (.int v60), .val (.int v61), .val (.ref b206), .val (.ref b220), .val (.long v67), .second, .val (.long v68), .second, .val (.int v70), .val (.int v72), .val (.int v74), .val (.int v76), .val (.int v78), .val (.int v83), .val (.int v85)] [(.int v76)])) _
                      refine XS.ifNo X273.here hx rfl (hb hby at_339) rfl ((if0 _ _).trans (feq hc339_89).1) ?_
                      show Steps p.tables e below (T273.setTop (mkF m 342 #[.val (.int p0), .val (.int p1), .val (.int p2), .val (.int p3), .val (.long q4), .second, .val (.long q5), .second, .val (.int v1), .val (.long v55), .second, .val (.int v56), .val (.int v57), .val (.int v58), .val (.int v59), .val (.int v60), .val (.int v61), .val (.ref b206), .val (.ref b220), .val (.long v67), .second, .val (.long v68), .second, .val (.int v70), .val (.int v72), .val (.int v74), .val (.int v76), .val (.int v78), .val (.int v83), .val (.int v85)] [])) _
                      refine XS.iload X273.here hx rfl (hb hby at_342) rfl ?_
                      show Steps p.tables e below (T273.setTop (mkF m 344 #[.val (.int p0), .val (.int p1), .val (.int p2), .val (.int p3), .val (.long q4), .second, .val (.long q5), .second, .val (.int v1), .val (.long v55), .second, .val (.int v56), .val (.int v57), .val (.int v58), .val (.int v59), .val (.int v60), .val (.int v61), .val (.ref b206), .val (.ref b220), .val (.long v67), .second, .val (.long v68), .second, .val (.int v70), .val (.int v72), .val (.int v74), .val (.int v76), .val (.int v78), .val (.int v83), .val (.int v85)] [(.int v78)])) _
                      refine st286 _ ?_
                      exact kt
                    refine own_arm hgo287 ?_
                    exact own_armEnd X286 N286 e286 (by rw [hv96.trans (if_neg hc339_89)]))
                have hgo289 : ∀ t, Steps p.tables e below (T288.setTop (mkF m 362 #[.val (.int p0), .val (.int p1), .val (.int p2), .val (.int p3), .val (.long q4), .second, .val (.long q5), .second, .val (.int v1), .val (.long v55), .second, .val (.int v56), .val (.int v57), .val (.int v58), .val (.int v59), .val (.int v60), .val (.int v61), .val (.ref b206), .val (.ref b220), .val (.long v67), .second, .val (.long v68), .second, .val (.int v70), .val (.int v72), .val (.int v74), .val (.int v76), .val (.int v78), .val (.int v83), .val (.int v85)] [(.int v96)])) t → Steps p.tables e below (T273.setTop (mkF m 334 #[.val (.int p0), .val (.int p1), .val (.int p2), .val (.int p3), .val (.long q4), .second, .val (.long q5), .second, .val (.int v1), .val (.long v55), .second, .val (.int v56), .val (.int v57), .val (.int v58), .val (.int v59), .val (.int v60), .val (.int v61), .val (.ref b206), .val (.ref b220), .val (.long v67), .second, .val (.long v68), .second, .val (.int v70), .val (.int v72), .val (.int v74), .val (.int v76), .val (.int v78), .val (.int v83), .val (.int v85)] [(.int v74)])) t := by
                  intro t kt
                  show Steps p.tables e below (T273.setTop (mkF m 334 #[.val (.int p0), .val (.int p1), .val (.int p2), .val (.int p3), .val (.long q4), .second, .val (.long q5), .second, .val (.int v1), .val (.long v55), .second, .val (.int v56), .val (.int v57), .val (.int v58), .val (.int v59), .val (.int v60), .val (.int v61), .val (.ref b206), .val (.ref b220), .val (.long v67), .second, .val (.long v68), .second, .val (.int v70), .val (.int v72), .val (.int v74), .val (.int v76), .val (.int v78), .val (.int v83), .val (.int v85)] [(.int v74)])) _
                  refine XS.ifNo X273.here hx rfl (hb hby at_334) rfl ((if0 _ _).trans (feq hc334_88).1) ?_
                  show Steps p.tables e below (T273.setTop (mkF m 337 #[.val (.int p0), .val (.int p1), .val (.int p2), .val (.int p3), .val (.long q4), .second, .val (.long q5), .second, .val (.int v1), .val (.long v55), .second, .val (.int v56), .val (.int v57), .val (.int v58), .val (.int v59), .val (.int v60), .val (.int v61), .val (.ref b206), .val (.ref b220), .val (.long v67), .second, .val (.long v68), .second, .val (.int v70), .val (.int v72), .val (.int v74), .val (.int v76), .val (.int v78), .val (.int v83), .val (.int v85)] [])) _
                  refine XS.iload X273.here hx rfl (hb hby at_337) rfl ?_
                  show Steps p.tables e below (T273.setTop (mkF m 339 #[.val (.int p0), .val (.int p1), .val (.int p2), .val (.int p3), .val (.long q4), .second, .val (.long q5), .second, .val (.int v1), .val (.long v55), .second, .val (.int v56), .val (.int v57), .val (.int v58), .val (.int v59), .val (.int v60), .val (.int v61), .val (.ref b206), .val (.ref b220), .val (.long v67), .second, .val (.long v68), .second, .val (.int v70), .val (.int v72), .val (.int v74), .val (.int v76), .val (.int v78), .val (.int v83), .val (.int v85)] [(.int v76)])) _
                  refine st288 _ ?_
                  exact kt
                refine own_arm hgo289 ?_
                exact own_armEnd X288 N288 e288 (by rw [hv97.trans (if_neg hc334_88)]))
            have hgo291 : ∀ t, Steps p.tables e below (T290.setTop (mkF m 362 #[.val (.int p0), .val (.int p1), .val (.int p2), .val (.int p3), .val (.long q4), .second, .val (.long q5), .second, .val (.int v1), .val (.long v55), .second, .val (.int v56), .val (.int v57), .val (.int v58), .val (.int v59), .val (.int v60), .val (.int v61), .val (.ref b206), .val (.ref b220), .val (.long v67), .second, .val (.long v68), .second, .val (.int v70), .val (.int v72), .val (.int v74), .val (.int v76), .val (.int v78), .val (.int v83), .val (.int v85)] [(.int v97)])) t → Steps p.tables e below (T273.setTop (mkF m 329 #[.val (.int p0), .val (.int p1), .val (.int p2), .val (.int p3), .val (.long q4), .second, .val (.long q5), .second, .val (.int v1), .val (.long v55), .second, .val (.int v56), .val (.int v57), .val (.int v58), .val (.int v59), .val (.int v60), .val (.int v61), .val (.ref b206), .val (.ref b220), .val (.long v67), .second, .val (.long v68), .second, .val (.int v70), .val (.int v72), .val (.int v74), .val (.int v76), .val (.int v78), .val (.int v83), .val (.int v85)] [(.int v72)])) t := by
              intro t kt
              show Steps p.tables e below (T273.setTop (mkF m 329 #[.val (.int p0), .val (.int p1), .val (.int p2), .val (.int p3), .val (.long q4), .second, .val (.long q5), .second, .val (.int v1), .val (.long v55), .second, .val (.int v56), .val (.int v57), .val (.int v58), .val (.int v59), .val (.int v60), .val (.int v61), .val (.ref b206), .val (.ref b220), .val (.long v67), .second, .val (.long v68), .second, .val (.int v70), .val (.int v72), .val (.int v74), .val (.int v76), .val (.int v78), .val (.int v83), .val (.int v85)] [(.int v72)])) _
              refine XS.ifNo X273.here hx rfl (hb hby at_329) rfl ((if0 _ _).trans (feq hc329_87).1) ?_
              show Steps p.tables e below (T273.setTop (mkF m 332 #[.val (.int p0), .val (.int p1), .val (.int p2), .val (.int p3), .val (.long q4), .second, .val (.long q5), .second, .val (.int v1), .val (.long v55), .second, .val (.int v56), .val (.int v57), .val (.int v58), .val (.int v59), .val (.int v60), .val (.int v61), .val (.ref b206), .val (.ref b220), .val (.long v67), .second, .val (.long v68), .second, .val (.int v70), .val (.int v72), .val (.int v74), .val (.int v76), .val (.int v78), .val (.int v83), .val (.int v85)] [])) _
              refine XS.iload X273.here hx rfl (hb hby at_332) rfl ?_
              show Steps p.tables e below (T273.setTop (mkF m 334 #[.val (.int p0), .val (.int p1), .val (.int p2), .val (.int p3), .val (.long q4), .second, .val (.long q5), .second, .val (.int v1), .val (.long v55), .second, .val (.int v56), .val (.int v57), .val (.int v58), .val (.int v59), .val (.int v60), .val (.int v61), .val (.ref b206), .val (.ref b220), .val (.long v67), .second, .val (.long v68), .second, .val (.int v70), .val (.int v72), .val (.int v74), .val (.int v76), .val (.int v78), .val (.int v83), .val (.int v85)] [(.int v74)])) _
              refine st290 _ ?_
              exact kt
            refine own_arm hgo291 ?_
            exact own_armEnd X290 N290 e290 (by rw [hv98.trans (if_neg hc329_87)]))
        have hgo293 : ∀ t, Steps p.tables e below (T292.setTop (mkF m 362 #[.val (.int p0), .val (.int p1), .val (.int p2), .val (.int p3), .val (.long q4), .second, .val (.long q5), .second, .val (.int v1), .val (.long v55), .second, .val (.int v56), .val (.int v57), .val (.int v58), .val (.int v59), .val (.int v60), .val (.int v61), .val (.ref b206), .val (.ref b220), .val (.long v67), .second, .val (.long v68), .second, .val (.int v70), .val (.int v72), .val (.int v74), .val (.int v76), .val (.int v78), .val (.int v83), .val (.int v85)] [(.int v98)])) t → Steps p.tables e below (T273.setTop (mkF m 324 #[.val (.int p0), .val (.int p1), .val (.int p2), .val (.int p3), .val (.long q4), .second, .val (.long q5), .second, .val (.int v1), .val (.long v55), .second, .val (.int v56), .val (.int v57), .val (.int v58), .val (.int v59), .val (.int v60), .val (.int v61), .val (.ref b206), .val (.ref b220), .val (.long v67), .second, .val (.long v68), .second, .val (.int v70), .val (.int v72), .val (.int v74), .val (.int v76), .val (.int v78), .val (.int v83), .val (.int v85)] [(.int v70)])) t := by
          intro t kt
          show Steps p.tables e below (T273.setTop (mkF m 324 #[.val (.int p0), .val (.int p1), .val (.int p2), .val (.int p3), .val (.long q4), .second, .val (.long q5), .second, .val (.int v1), .val (.long v55), .second, .val (.int v56), .val (.int v57), .val (.int v58), .val (.int v59), .val (.int v60), .val (.int v61), .val (.ref b206), .val (.ref b220), .val (.long v67), .second, .val (.long v68), .second, .val (.int v70), .val (.int v72), .val (.int v74), .val (.int v76), .val (.int v78), .val (.int v83), .val (.int v85)] [(.int v70)])) _
          refine XS.ifNo X273.here hx rfl (hb hby at_324) rfl ((if0 _ _).trans (feq hc324_86).1) ?_
          show Steps p.tables e below (T273.setTop (mkF m 327 #[.val (.int p0), .val (.int p1), .val (.int p2), .val (.int p3), .val (.long q4), .second, .val (.long q5), .second, .val (.int v1), .val (.long v55), .second, .val (.int v56), .val (.int v57), .val (.int v58), .val (.int v59), .val (.int v60), .val (.int v61), .val (.ref b206), .val (.ref b220), .val (.long v67), .second, .val (.long v68), .second, .val (.int v70), .val (.int v72), .val (.int v74), .val (.int v76), .val (.int v78), .val (.int v83), .val (.int v85)] [])) _
          refine XS.iload X273.here hx rfl (hb hby at_327) rfl ?_
          show Steps p.tables e below (T273.setTop (mkF m 329 #[.val (.int p0), .val (.int p1), .val (.int p2), .val (.int p3), .val (.long q4), .second, .val (.long q5), .second, .val (.int v1), .val (.long v55), .second, .val (.int v56), .val (.int v57), .val (.int v58), .val (.int v59), .val (.int v60), .val (.int v61), .val (.ref b206), .val (.ref b220), .val (.long v67), .second, .val (.long v68), .second, .val (.int v70), .val (.int v72), .val (.int v74), .val (.int v76), .val (.int v78), .val (.int v83), .val (.int v85)] [(.int v72)])) _
          refine st292 _ ?_
          exact kt
        refine own_arm hgo293 ?_
        exact own_armEnd X292 N292 e292 (by rw [hv99.trans (if_neg hc324_86)]))
    have hgo295 : ∀ t, Steps p.tables e below (T294.setTop (mkF m 362 #[.val (.int p0), .val (.int p1), .val (.int p2), .val (.int p3), .val (.long q4), .second, .val (.long q5), .second, .val (.int v1), .val (.long v55), .second, .val (.int v56), .val (.int v57), .val (.int v58), .val (.int v59), .val (.int v60), .val (.int v61), .val (.ref b206), .val (.ref b220), .val (.long v67), .second, .val (.long v68), .second, .val (.int v70), .val (.int v72), .val (.int v74), .val (.int v76), .val (.int v78), .val (.int v83), .val (.int v85)] [(.int v99)])) t → Steps p.tables e below (s₁.setTop (mkF m 14 #[.val (.int p0), .val (.int p1), .val (.int p2), .val (.int p3), .val (.long q4), .second, .val (.long q5), .second, .val (.int v1), .unset, .unset, .unset, .unset, .unset, .unset, .unset, .unset, .unset, .unset, .unset, .unset, .unset, .unset, .unset, .unset, .unset, .unset, .unset, .unset, .unset] [(.int (1 : Int32)), (.int v1)])) t := by
      intro t kt
      show Steps p.tables e below (s₁.setTop (mkF m 14 #[.val (.int p0), .val (.int p1), .val (.int p2), .val (.int p3), .val (.long q4), .second, .val (.long q5), .second, .val (.int v1), .unset, .unset, .unset, .unset, .unset, .unset, .unset, .unset, .unset, .unset, .unset, .unset, .unset, .unset, .unset, .unset, .unset, .unset, .unset, .unset, .unset] [(.int (1 : Int32)), (.int v1)])) _
      refine XS.icmpYes X0.here hx rfl (pc0 := 14) (pc' := 28) rfl (hb hby at_14) rfl (feq hc14_2).2 (by decide) (by decide) ?_
      show Steps p.tables e below (s₁.setTop (mkF m 28 #[.val (.int p0), .val (.int p1), .val (.int p2), .val (.int p3), .val (.long q4), .second, .val (.long q5), .second, .val (.int v1), .unset, .unset, .unset, .unset, .unset, .unset, .unset, .unset, .unset, .unset, .unset, .unset, .unset, .unset, .unset, .unset, .unset, .unset, .unset, .unset, .unset] [])) _
      refine XS.lconst X0.here hx rfl (hb hby at_28) ?_
      show Steps p.tables e below (s₁.setTop (mkF m 29 #[.val (.int p0), .val (.int p1), .val (.int p2), .val (.int p3), .val (.long q4), .second, .val (.long q5), .second, .val (.int v1), .unset, .unset, .unset, .unset, .unset, .unset, .unset, .unset, .unset, .unset, .unset, .unset, .unset, .unset, .unset, .unset, .unset, .unset, .unset, .unset, .unset] [(.long (1 : Int64))])) _
      refine XS.iload X0.here hx rfl (hb hby at_29) rfl ?_
      show Steps p.tables e below (s₁.setTop (mkF m 31 #[.val (.int p0), .val (.int p1), .val (.int p2), .val (.int p3), .val (.long q4), .second, .val (.long q5), .second, .val (.int v1), .unset, .unset, .unset, .unset, .unset, .unset, .unset, .unset, .unset, .unset, .unset, .unset, .unset, .unset, .unset, .unset, .unset, .unset, .unset, .unset, .unset] [(.int v1), (.long (1 : Int64))])) _
      refine XS.iconst X0.here hx rfl (hb hby at_31) ?_
      show Steps p.tables e below (s₁.setTop (mkF m 32 #[.val (.int p0), .val (.int p1), .val (.int p2), .val (.int p3), .val (.long q4), .second, .val (.long q5), .second, .val (.int v1), .unset, .unset, .unset, .unset, .unset, .unset, .unset, .unset, .unset, .unset, .unset, .unset, .unset, .unset, .unset, .unset, .unset, .unset, .unset, .unset, .unset] [(.int (1 : Int32)), (.int v1), (.long (1 : Int64))])) _
      refine XS.isub X0.here hx rfl (hb hby at_32) rfl ?_
      show Steps p.tables e below (s₁.setTop (mkF m 33 #[.val (.int p0), .val (.int p1), .val (.int p2), .val (.int p3), .val (.long q4), .second, .val (.long q5), .second, .val (.int v1), .unset, .unset, .unset, .unset, .unset, .unset, .unset, .unset, .unset, .unset, .unset, .unset, .unset, .unset, .unset, .unset, .unset, .unset, .unset, .unset, .unset] [(.int (v1 - (1 : Int32))), (.long (1 : Int64))])) _
      refine XS.lshl X0.here hx rfl (hb hby at_33) rfl ?_
      show Steps p.tables e below (s₁.setTop (mkF m 34 #[.val (.int p0), .val (.int p1), .val (.int p2), .val (.int p3), .val (.long q4), .second, .val (.long q5), .second, .val (.int v1), .unset, .unset, .unset, .unset, .unset, .unset, .unset, .unset, .unset, .unset, .unset, .unset, .unset, .unset, .unset, .unset, .unset, .unset, .unset, .unset, .unset] [(.long ((1 : Int64) <<< ((v1 - (1 : Int32)) &&& 0x3f).toInt64))])) _
      rw [← hv53]
      show Steps p.tables e below (s₁.setTop (mkF m 34 #[.val (.int p0), .val (.int p1), .val (.int p2), .val (.int p3), .val (.long q4), .second, .val (.long q5), .second, .val (.int v1), .unset, .unset, .unset, .unset, .unset, .unset, .unset, .unset, .unset, .unset, .unset, .unset, .unset, .unset, .unset, .unset, .unset, .unset, .unset, .unset, .unset] [(.long v53)])) _
      refine XS.lstore X0.here hx rfl (hb hby at_34) rfl (l' := #[.val (.int p0), .val (.int p1), .val (.int p2), .val (.int p3), .val (.long q4), .second, .val (.long q5), .second, .val (.int v1), .unset, .unset, .val (.long v53), .second, .unset, .unset, .unset, .unset, .unset, .unset, .unset, .unset, .unset, .unset, .unset, .unset, .unset, .unset, .unset, .unset, .unset]) rfl ?_
      show Steps p.tables e below (s₁.setTop (mkF m 36 #[.val (.int p0), .val (.int p1), .val (.int p2), .val (.int p3), .val (.long q4), .second, .val (.long q5), .second, .val (.int v1), .unset, .unset, .val (.long v53), .second, .unset, .unset, .unset, .unset, .unset, .unset, .unset, .unset, .unset, .unset, .unset, .unset, .unset, .unset, .unset, .unset, .unset] [])) _
      refine X0.ldc2Long hx hown (mvT hZ (hw _ (List.mem_of_getElem? (i := 53) rfl))) (g := (mkF m 36 #[.val (.int p0), .val (.int p1), .val (.int p2), .val (.int p3), .val (.long q4), .second, .val (.long q5), .second, .val (.int v1), .unset, .unset, .val (.long v53), .second, .unset, .unset, .unset, .unset, .unset, .unset, .unset, .unset, .unset, .unset, .unset, .unset, .unset, .unset, .unset, .unset, .unset] [])) rfl (hb hby at_36) _ ?_
      show Steps p.tables e below (s₁.setTop (mkF m 39 #[.val (.int p0), .val (.int p1), .val (.int p2), .val (.int p3), .val (.long q4), .second, .val (.long q5), .second, .val (.int v1), .unset, .unset, .val (.long v53), .second, .unset, .unset, .unset, .unset, .unset, .unset, .unset, .unset, .unset, .unset, .unset, .unset, .unset, .unset, .unset, .unset, .unset] [(.long (2147483647 : Int64))])) _
      refine XS.lload X0.here hx rfl (hb hby at_39) rfl ?_
      show Steps p.tables e below (s₁.setTop (mkF m 41 #[.val (.int p0), .val (.int p1), .val (.int p2), .val (.int p3), .val (.long q4), .second, .val (.long q5), .second, .val (.int v1), .unset, .unset, .val (.long v53), .second, .unset, .unset, .unset, .unset, .unset, .unset, .unset, .unset, .unset, .unset, .unset, .unset, .unset, .unset, .unset, .unset, .unset] [(.long v53), (.long (2147483647 : Int64))])) _
      refine XS.lconst X0.here hx rfl (hb hby at_41) ?_
      show Steps p.tables e below (s₁.setTop (mkF m 42 #[.val (.int p0), .val (.int p1), .val (.int p2), .val (.int p3), .val (.long q4), .second, .val (.long q5), .second, .val (.int v1), .unset, .unset, .val (.long v53), .second, .unset, .unset, .unset, .unset, .unset, .unset, .unset, .unset, .unset, .unset, .unset, .unset, .unset, .unset, .unset, .unset, .unset] [(.long (1 : Int64)), (.long v53), (.long (2147483647 : Int64))])) _
      refine XS.ladd X0.here hx rfl (hb hby at_42) rfl ?_
      show Steps p.tables e below (s₁.setTop (mkF m 43 #[.val (.int p0), .val (.int p1), .val (.int p2), .val (.int p3), .val (.long q4), .second, .val (.long q5), .second, .val (.int v1), .unset, .unset, .val (.long v53), .second, .unset, .unset, .unset, .unset, .unset, .unset, .unset, .unset, .unset, .unset, .unset, .unset, .unset, .unset, .unset, .unset, .unset] [(.long (v53 + (1 : Int64))), (.long (2147483647 : Int64))])) _
      refine XS.iloadN X0.here hx rfl (hb hby at_43) rfl ?_
      show Steps p.tables e below (s₁.setTop (mkF m 44 #[.val (.int p0), .val (.int p1), .val (.int p2), .val (.int p3), .val (.long q4), .second, .val (.long q5), .second, .val (.int v1), .unset, .unset, .val (.long v53), .second, .unset, .unset, .unset, .unset, .unset, .unset, .unset, .unset, .unset, .unset, .unset, .unset, .unset, .unset, .unset, .unset, .unset] [(.int p1), (.long (v53 + (1 : Int64))), (.long (2147483647 : Int64))])) _
      refine XS.i2l X0.here hx rfl (hb hby at_44) rfl ?_
      show Steps p.tables e below (s₁.setTop (mkF m 45 #[.val (.int p0), .val (.int p1), .val (.int p2), .val (.int p3), .val (.long q4), .second, .val (.long q5), .second, .val (.int v1), .unset, .unset, .val (.long v53), .second, .unset, .unset, .unset, .unset, .unset, .unset, .unset, .unset, .unset, .unset, .unset, .unset, .unset, .unset, .unset, .unset, .unset] [(.long (p1.toInt64)), (.long (v53 + (1 : Int64))), (.long (2147483647 : Int64))])) _
      refine XS.lload X0.here hx rfl (hb hby at_45) rfl ?_
      show Steps p.tables e below (s₁.setTop (mkF m 47 #[.val (.int p0), .val (.int p1), .val (.int p2), .val (.int p3), .val (.long q4), .second, .val (.long q5), .second, .val (.int v1), .unset, .unset, .val (.long v53), .second, .unset, .unset, .unset, .unset, .unset, .unset, .unset, .unset, .unset, .unset, .unset, .unset, .unset, .unset, .unset, .unset, .unset] [(.long v53), (.long (p1.toInt64)), (.long (v53 + (1 : Int64))), (.long (2147483647 : Int64))])) _
      refine XS.lconst X0.here hx rfl (hb hby at_47) ?_
      show Steps p.tables e below (s₁.setTop (mkF m 48 #[.val (.int p0), .val (.int p1), .val (.int p2), .val (.int p3), .val (.long q4), .second, .val (.long q5), .second, .val (.int v1), .unset, .unset, .val (.long v53), .second, .unset, .unset, .unset, .unset, .unset, .unset, .unset, .unset, .unset, .unset, .unset, .unset, .unset, .unset, .unset, .unset, .unset] [(.long (1 : Int64)), (.long v53), (.long (p1.toInt64)), (.long (v53 + (1 : Int64))), (.long (2147483647 : Int64))])) _
      refine XS.lsub X0.here hx rfl (hb hby at_48) rfl ?_
      show Steps p.tables e below (s₁.setTop (mkF m 49 #[.val (.int p0), .val (.int p1), .val (.int p2), .val (.int p3), .val (.long q4), .second, .val (.long q5), .second, .val (.int v1), .unset, .unset, .val (.long v53), .second, .unset, .unset, .unset, .unset, .unset, .unset, .unset, .unset, .unset, .unset, .unset, .unset, .unset, .unset, .unset, .unset, .unset] [(.long (v53 - (1 : Int64))), (.long (p1.toInt64)), (.long (v53 + (1 : Int64))), (.long (2147483647 : Int64))])) _
      refine XS.land X0.here hx rfl (hb hby at_49) rfl ?_
      show Steps p.tables e below (s₁.setTop (mkF m 50 #[.val (.int p0), .val (.int p1), .val (.int p2), .val (.int p3), .val (.long q4), .second, .val (.long q5), .second, .val (.int v1), .unset, .unset, .val (.long v53), .second, .unset, .unset, .unset, .unset, .unset, .unset, .unset, .unset, .unset, .unset, .unset, .unset, .unset, .unset, .unset, .unset, .unset] [(.long ((p1.toInt64) &&& (v53 - (1 : Int64)))), (.long (v53 + (1 : Int64))), (.long (2147483647 : Int64))])) _
      refine XS.ladd X0.here hx rfl (hb hby at_50) rfl ?_
      show Steps p.tables e below (s₁.setTop (mkF m 51 #[.val (.int p0), .val (.int p1), .val (.int p2), .val (.int p3), .val (.long q4), .second, .val (.long q5), .second, .val (.int v1), .unset, .unset, .val (.long v53), .second, .unset, .unset, .unset, .unset, .unset, .unset, .unset, .unset, .unset, .unset, .unset, .unset, .unset, .unset, .unset, .unset, .unset] [(.long ((v53 + (1 : Int64)) + ((p1.toInt64) &&& (v53 - (1 : Int64))))), (.long (2147483647 : Int64))])) _
      rw [← hv54]
      show Steps p.tables e below (s₁.setTop (mkF m 51 #[.val (.int p0), .val (.int p1), .val (.int p2), .val (.int p3), .val (.long q4), .second, .val (.long q5), .second, .val (.int v1), .unset, .unset, .val (.long v53), .second, .unset, .unset, .unset, .unset, .unset, .unset, .unset, .unset, .unset, .unset, .unset, .unset, .unset, .unset, .unset, .unset, .unset] [(.long v54), (.long (2147483647 : Int64))])) _
      refine st201 _ ?_
      show Steps p.tables e below (T201.setTop (mkF m 54 #[.val (.int p0), .val (.int p1), .val (.int p2), .val (.int p3), .val (.long q4), .second, .val (.long q5), .second, .val (.int v1), .unset, .unset, .val (.long v53), .second, .unset, .unset, .unset, .unset, .unset, .unset, .unset, .unset, .unset, .unset, .unset, .unset, .unset, .unset, .unset, .unset, .unset] [(.long (own_r8 (2147483647 : Int64) v54))])) _
      rw [← hv55]
      show Steps p.tables e below (T201.setTop (mkF m 54 #[.val (.int p0), .val (.int p1), .val (.int p2), .val (.int p3), .val (.long q4), .second, .val (.long q5), .second, .val (.int v1), .unset, .unset, .val (.long v53), .second, .unset, .unset, .unset, .unset, .unset, .unset, .unset, .unset, .unset, .unset, .unset, .unset, .unset, .unset, .unset, .unset, .unset] [(.long v55)])) _
      refine XS.lstore X201.here hx rfl (hb hby at_54) rfl (l' := #[.val (.int p0), .val (.int p1), .val (.int p2), .val (.int p3), .val (.long q4), .second, .val (.long q5), .second, .val (.int v1), .val (.long v55), .second, .val (.long v53), .second, .unset, .unset, .unset, .unset, .unset, .unset, .unset, .unset, .unset, .unset, .unset, .unset, .unset, .unset, .unset, .unset, .unset]) rfl ?_
      show Steps p.tables e below (T201.setTop (mkF m 56 #[.val (.int p0), .val (.int p1), .val (.int p2), .val (.int p3), .val (.long q4), .second, .val (.long q5), .second, .val (.int v1), .val (.long v55), .second, .val (.long v53), .second, .unset, .unset, .unset, .unset, .unset, .unset, .unset, .unset, .unset, .unset, .unset, .unset, .unset, .unset, .unset, .unset, .unset] [])) _
      refine XS.lload X201.here hx rfl (hb hby at_56) rfl ?_
      show Steps p.tables e below (T201.setTop (mkF m 58 #[.val (.int p0), .val (.int p1), .val (.int p2), .val (.int p3), .val (.long q4), .second, .val (.long q5), .second, .val (.int v1), .val (.long v55), .second, .val (.long v53), .second, .unset, .unset, .unset, .unset, .unset, .unset, .unset, .unset, .unset, .unset, .unset, .unset, .unset, .unset, .unset, .unset, .unset] [(.long v55)])) _
      refine XS.l2i X201.here hx rfl (hb hby at_58) rfl ?_
      show Steps p.tables e below (T201.setTop (mkF m 59 #[.val (.int p0), .val (.int p1), .val (.int p2), .val (.int p3), .val (.long q4), .second, .val (.long q5), .second, .val (.int v1), .val (.long v55), .second, .val (.long v53), .second, .unset, .unset, .unset, .unset, .unset, .unset, .unset, .unset, .unset, .unset, .unset, .unset, .unset, .unset, .unset, .unset, .unset] [(.int (v55.toInt32))])) _
      rw [← hv56]
      show Steps p.tables e below (T201.setTop (mkF m 59 #[.val (.int p0), .val (.int p1), .val (.int p2), .val (.int p3), .val (.long q4), .second, .val (.long q5), .second, .val (.int v1), .val (.long v55), .second, .val (.long v53), .second, .unset, .unset, .unset, .unset, .unset, .unset, .unset, .unset, .unset, .unset, .unset, .unset, .unset, .unset, .unset, .unset, .unset] [(.int v56)])) _
      refine XS.istore X201.here hx rfl (hb hby at_59) rfl (l' := #[.val (.int p0), .val (.int p1), .val (.int p2), .val (.int p3), .val (.long q4), .second, .val (.long q5), .second, .val (.int v1), .val (.long v55), .second, .val (.int v56), .unset, .unset, .unset, .unset, .unset, .unset, .unset, .unset, .unset, .unset, .unset, .unset, .unset, .unset, .unset, .unset, .unset, .unset]) rfl ?_
      show Steps p.tables e below (T201.setTop (mkF m 61 #[.val (.int p0), .val (.int p1), .val (.int p2), .val (.int p3), .val (.long q4), .second, .val (.long q5), .second, .val (.int v1), .val (.long v55), .second, .val (.int v56), .unset, .unset, .unset, .unset, .unset, .unset, .unset, .unset, .unset, .unset, .unset, .unset, .unset, .unset, .unset, .unset, .unset, .unset] [])) _
      refine XS.bipush X201.here hx rfl (hb hby at_61) ?_
      show Steps p.tables e below (T201.setTop (mkF m 63 #[.val (.int p0), .val (.int p1), .val (.int p2), .val (.int p3), .val (.long q4), .second, .val (.long q5), .second, .val (.int v1), .val (.long v55), .second, .val (.int v56), .unset, .unset, .unset, .unset, .unset, .unset, .unset, .unset, .unset, .unset, .unset, .unset, .unset, .unset, .unset, .unset, .unset, .unset] [(.int (64 : Int32))])) _
      refine XS.iload X201.here hx rfl (hb hby at_63) rfl ?_
      show Steps p.tables e below (T201.setTop (mkF m 65 #[.val (.int p0), .val (.int p1), .val (.int p2), .val (.int p3), .val (.long q4), .second, .val (.long q5), .second, .val (.int v1), .val (.long v55), .second, .val (.int v56), .unset, .unset, .unset, .unset, .unset, .unset, .unset, .unset, .unset, .unset, .unset, .unset, .unset, .unset, .unset, .unset, .unset, .unset] [(.int v1), (.int (64 : Int32))])) _
      refine XS.idiv X201.here hx rfl (hb hby at_65) rfl hnz65_202 ?_
      show Steps p.tables e below (T201.setTop (mkF m 66 #[.val (.int p0), .val (.int p1), .val (.int p2), .val (.int p3), .val (.long q4), .second, .val (.long q5), .second, .val (.int v1), .val (.long v55), .second, .val (.int v56), .unset, .unset, .unset, .unset, .unset, .unset, .unset, .unset, .unset, .unset, .unset, .unset, .unset, .unset, .unset, .unset, .unset, .unset] [(.int ((64 : Int32) / v1))])) _
      rw [← hv57]
      show Steps p.tables e below (T201.setTop (mkF m 66 #[.val (.int p0), .val (.int p1), .val (.int p2), .val (.int p3), .val (.long q4), .second, .val (.long q5), .second, .val (.int v1), .val (.long v55), .second, .val (.int v56), .unset, .unset, .unset, .unset, .unset, .unset, .unset, .unset, .unset, .unset, .unset, .unset, .unset, .unset, .unset, .unset, .unset, .unset] [(.int v57)])) _
      refine XS.istore X201.here hx rfl (hb hby at_66) rfl (l' := #[.val (.int p0), .val (.int p1), .val (.int p2), .val (.int p3), .val (.long q4), .second, .val (.long q5), .second, .val (.int v1), .val (.long v55), .second, .val (.int v56), .val (.int v57), .unset, .unset, .unset, .unset, .unset, .unset, .unset, .unset, .unset, .unset, .unset, .unset, .unset, .unset, .unset, .unset, .unset]) rfl ?_
      show Steps p.tables e below (T201.setTop (mkF m 68 #[.val (.int p0), .val (.int p1), .val (.int p2), .val (.int p3), .val (.long q4), .second, .val (.long q5), .second, .val (.int v1), .val (.long v55), .second, .val (.int v56), .val (.int v57), .unset, .unset, .unset, .unset, .unset, .unset, .unset, .unset, .unset, .unset, .unset, .unset, .unset, .unset, .unset, .unset, .unset] [])) _
      refine XS.iconst X201.here hx rfl (hb hby at_68) ?_
      show Steps p.tables e below (T201.setTop (mkF m 69 #[.val (.int p0), .val (.int p1), .val (.int p2), .val (.int p3), .val (.long q4), .second, .val (.long q5), .second, .val (.int v1), .val (.long v55), .second, .val (.int v56), .val (.int v57), .unset, .unset, .unset, .unset, .unset, .unset, .unset, .unset, .unset, .unset, .unset, .unset, .unset, .unset, .unset, .unset, .unset] [(.int (1 : Int32))])) _
      refine XS.iloadN X201.here hx rfl (hb hby at_69) rfl ?_
      show Steps p.tables e below (T201.setTop (mkF m 70 #[.val (.int p0), .val (.int p1), .val (.int p2), .val (.int p3), .val (.long q4), .second, .val (.long q5), .second, .val (.int v1), .val (.long v55), .second, .val (.int v56), .val (.int v57), .unset, .unset, .unset, .unset, .unset, .unset, .unset, .unset, .unset, .unset, .unset, .unset, .unset, .unset, .unset, .unset, .unset] [(.int p2), (.int (1 : Int32))])) _
      refine XS.bipush X201.here hx rfl (hb hby at_70) ?_
      show Steps p.tables e below (T201.setTop (mkF m 72 #[.val (.int p0), .val (.int p1), .val (.int p2), .val (.int p3), .val (.long q4), .second, .val (.long q5), .second, .val (.int v1), .val (.long v55), .second, .val (.int v56), .val (.int v57), .unset, .unset, .unset, .unset, .unset, .unset, .unset, .unset, .unset, .unset, .unset, .unset, .unset, .unset, .unset, .unset, .unset] [(.int (63 : Int32)), (.int p2), (.int (1 : Int32))])) _
      refine XS.iand X201.here hx rfl (hb hby at_72) rfl ?_
      show Steps p.tables e below (T201.setTop (mkF m 73 #[.val (.int p0), .val (.int p1), .val (.int p2), .val (.int p3), .val (.long q4), .second, .val (.long q5), .second, .val (.int v1), .val (.long v55), .second, .val (.int v56), .val (.int v57), .unset, .unset, .unset, .unset, .unset, .unset, .unset, .unset, .unset, .unset, .unset, .unset, .unset, .unset, .unset, .unset, .unset] [(.int (p2 &&& (63 : Int32))), (.int (1 : Int32))])) _
      refine XS.iadd X201.here hx rfl (hb hby at_73) rfl ?_
      show Steps p.tables e below (T201.setTop (mkF m 74 #[.val (.int p0), .val (.int p1), .val (.int p2), .val (.int p3), .val (.long q4), .second, .val (.long q5), .second, .val (.int v1), .val (.long v55), .second, .val (.int v56), .val (.int v57), .unset, .unset, .unset, .unset, .unset, .unset, .unset, .unset, .unset, .unset, .unset, .unset, .unset, .unset, .unset, .unset, .unset] [(.int ((1 : Int32) + (p2 &&& (63 : Int32))))])) _
      rw [← hv58]
      show Steps p.tables e below (T201.setTop (mkF m 74 #[.val (.int p0), .val (.int p1), .val (.int p2), .val (.int p3), .val (.long q4), .second, .val (.long q5), .second, .val (.int v1), .val (.long v55), .second, .val (.int v56), .val (.int v57), .unset, .unset, .unset, .unset, .unset, .unset, .unset, .unset, .unset, .unset, .unset, .unset, .unset, .unset, .unset, .unset, .unset] [(.int v58)])) _
      refine XS.istore X201.here hx rfl (hb hby at_74) rfl (l' := #[.val (.int p0), .val (.int p1), .val (.int p2), .val (.int p3), .val (.long q4), .second, .val (.long q5), .second, .val (.int v1), .val (.long v55), .second, .val (.int v56), .val (.int v57), .val (.int v58), .unset, .unset, .unset, .unset, .unset, .unset, .unset, .unset, .unset, .unset, .unset, .unset, .unset, .unset, .unset, .unset]) rfl ?_
      show Steps p.tables e below (T201.setTop (mkF m 76 #[.val (.int p0), .val (.int p1), .val (.int p2), .val (.int p3), .val (.long q4), .second, .val (.long q5), .second, .val (.int v1), .val (.long v55), .second, .val (.int v56), .val (.int v57), .val (.int v58), .unset, .unset, .unset, .unset, .unset, .unset, .unset, .unset, .unset, .unset, .unset, .unset, .unset, .unset, .unset, .unset] [])) _
      refine XS.iconst X201.here hx rfl (hb hby at_76) ?_
      show Steps p.tables e below (T201.setTop (mkF m 77 #[.val (.int p0), .val (.int p1), .val (.int p2), .val (.int p3), .val (.long q4), .second, .val (.long q5), .second, .val (.int v1), .val (.long v55), .second, .val (.int v56), .val (.int v57), .val (.int v58), .unset, .unset, .unset, .unset, .unset, .unset, .unset, .unset, .unset, .unset, .unset, .unset, .unset, .unset, .unset, .unset] [(.int (1 : Int32))])) _
      refine XS.iloadN X201.here hx rfl (hb hby at_77) rfl ?_
      show Steps p.tables e below (T201.setTop (mkF m 78 #[.val (.int p0), .val (.int p1), .val (.int p2), .val (.int p3), .val (.long q4), .second, .val (.long q5), .second, .val (.int v1), .val (.long v55), .second, .val (.int v56), .val (.int v57), .val (.int v58), .unset, .unset, .unset, .unset, .unset, .unset, .unset, .unset, .unset, .unset, .unset, .unset, .unset, .unset, .unset, .unset] [(.int p3), (.int (1 : Int32))])) _
      refine X201.ldcInt hx hown (mvT hZ (hw _ (List.mem_of_getElem? (i := 0) rfl))) (g := (mkF m 78 #[.val (.int p0), .val (.int p1), .val (.int p2), .val (.int p3), .val (.long q4), .second, .val (.long q5), .second, .val (.int v1), .val (.long v55), .second, .val (.int v56), .val (.int v57), .val (.int v58), .unset, .unset, .unset, .unset, .unset, .unset, .unset, .unset, .unset, .unset, .unset, .unset, .unset, .unset, .unset, .unset] [(.int p3), (.int (1 : Int32))])) rfl (hb hby at_78) _ ?_
      show Steps p.tables e below (T201.setTop (mkF m 80 #[.val (.int p0), .val (.int p1), .val (.int p2), .val (.int p3), .val (.long q4), .second, .val (.long q5), .second, .val (.int v1), .val (.long v55), .second, .val (.int v56), .val (.int v57), .val (.int v58), .unset, .unset, .unset, .unset, .unset, .unset, .unset, .unset, .unset, .unset, .unset, .unset, .unset, .unset, .unset, .unset] [(.int (2147483647 : Int32)), (.int p3), (.int (1 : Int32))])) _
      refine XS.iand X201.here hx rfl (hb hby at_80) rfl ?_
      show Steps p.tables e below (T201.setTop (mkF m 81 #[.val (.int p0), .val (.int p1), .val (.int p2), .val (.int p3), .val (.long q4), .second, .val (.long q5), .second, .val (.int v1), .val (.long v55), .second, .val (.int v56), .val (.int v57), .val (.int v58), .unset, .unset, .unset, .unset, .unset, .unset, .unset, .unset, .unset, .unset, .unset, .unset, .unset, .unset, .unset, .unset] [(.int (p3 &&& (2147483647 : Int32))), (.int (1 : Int32))])) _
      refine XS.iload X201.here hx rfl (hb hby at_81) rfl ?_
      show Steps p.tables e below (T201.setTop (mkF m 83 #[.val (.int p0), .val (.int p1), .val (.int p2), .val (.int p3), .val (.long q4), .second, .val (.long q5), .second, .val (.int v1), .val (.long v55), .second, .val (.int v56), .val (.int v57), .val (.int v58), .unset, .unset, .unset, .unset, .unset, .unset, .unset, .unset, .unset, .unset, .unset, .unset, .unset, .unset, .unset, .unset] [(.int v56), (.int (p3 &&& (2147483647 : Int32))), (.int (1 : Int32))])) _
      refine XS.irem X201.here hx rfl (hb hby at_83) rfl hnz83_203 ?_
      rw [own_remI (p3 &&& (2147483647 : Int32)) v56]
      show Steps p.tables e below (T201.setTop (mkF m 84 #[.val (.int p0), .val (.int p1), .val (.int p2), .val (.int p3), .val (.long q4), .second, .val (.long q5), .second, .val (.int v1), .val (.long v55), .second, .val (.int v56), .val (.int v57), .val (.int v58), .unset, .unset, .unset, .unset, .unset, .unset, .unset, .unset, .unset, .unset, .unset, .unset, .unset, .unset, .unset, .unset] [(.int ((p3 &&& (2147483647 : Int32)) % v56)), (.int (1 : Int32))])) _
      refine XS.iadd X201.here hx rfl (hb hby at_84) rfl ?_
      show Steps p.tables e below (T201.setTop (mkF m 85 #[.val (.int p0), .val (.int p1), .val (.int p2), .val (.int p3), .val (.long q4), .second, .val (.long q5), .second, .val (.int v1), .val (.long v55), .second, .val (.int v56), .val (.int v57), .val (.int v58), .unset, .unset, .unset, .unset, .unset, .unset, .unset, .unset, .unset, .unset, .unset, .unset, .unset, .unset, .unset, .unset] [(.int ((1 : Int32) + ((p3 &&& (2147483647 : Int32)) % v56)))])) _
      rw [← hv59]
      show Steps p.tables e below (T201.setTop (mkF m 85 #[.val (.int p0), .val (.int p1), .val (.int p2), .val (.int p3), .val (.long q4), .second, .val (.long q5), .second, .val (.int v1), .val (.long v55), .second, .val (.int v56), .val (.int v57), .val (.int v58), .unset, .unset, .unset, .unset, .unset, .unset, .unset, .unset, .unset, .unset, .unset, .unset, .unset, .unset, .unset, .unset] [(.int v59)])) _
      refine XS.istore X201.here hx rfl (hb hby at_85) rfl (l' := #[.val (.int p0), .val (.int p1), .val (.int p2), .val (.int p3), .val (.long q4), .second, .val (.long q5), .second, .val (.int v1), .val (.long v55), .second, .val (.int v56), .val (.int v57), .val (.int v58), .val (.int v59), .unset, .unset, .unset, .unset, .unset, .unset, .unset, .unset, .unset, .unset, .unset, .unset, .unset, .unset, .unset]) rfl ?_
      show Steps p.tables e below (T201.setTop (mkF m 87 #[.val (.int p0), .val (.int p1), .val (.int p2), .val (.int p3), .val (.long q4), .second, .val (.long q5), .second, .val (.int v1), .val (.long v55), .second, .val (.int v56), .val (.int v57), .val (.int v58), .val (.int v59), .unset, .unset, .unset, .unset, .unset, .unset, .unset, .unset, .unset, .unset, .unset, .unset, .unset, .unset, .unset] [])) _
      refine XS.iload X201.here hx rfl (hb hby at_87) rfl ?_
      show Steps p.tables e below (T201.setTop (mkF m 89 #[.val (.int p0), .val (.int p1), .val (.int p2), .val (.int p3), .val (.long q4), .second, .val (.long q5), .second, .val (.int v1), .val (.long v55), .second, .val (.int v56), .val (.int v57), .val (.int v58), .val (.int v59), .unset, .unset, .unset, .unset, .unset, .unset, .unset, .unset, .unset, .unset, .unset, .unset, .unset, .unset, .unset] [(.int v58)])) _
      refine XS.iconst X201.here hx rfl (hb hby at_89) ?_
      show Steps p.tables e below (T201.setTop (mkF m 90 #[.val (.int p0), .val (.int p1), .val (.int p2), .val (.int p3), .val (.long q4), .second, .val (.long q5), .second, .val (.int v1), .val (.long v55), .second, .val (.int v56), .val (.int v57), .val (.int v58), .val (.int v59), .unset, .unset, .unset, .unset, .unset, .unset, .unset, .unset, .unset, .unset, .unset, .unset, .unset, .unset, .unset] [(.int (1 : Int32)), (.int v58)])) _
      refine XS.isub X201.here hx rfl (hb hby at_90) rfl ?_
      show Steps p.tables e below (T201.setTop (mkF m 91 #[.val (.int p0), .val (.int p1), .val (.int p2), .val (.int p3), .val (.long q4), .second, .val (.long q5), .second, .val (.int v1), .val (.long v55), .second, .val (.int v56), .val (.int v57), .val (.int v58), .val (.int v59), .unset, .unset, .unset, .unset, .unset, .unset, .unset, .unset, .unset, .unset, .unset, .unset, .unset, .unset, .unset] [(.int (v58 - (1 : Int32)))])) _
      refine XS.iload X201.here hx rfl (hb hby at_91) rfl ?_
      show Steps p.tables e below (T201.setTop (mkF m 93 #[.val (.int p0), .val (.int p1), .val (.int p2), .val (.int p3), .val (.long q4), .second, .val (.long q5), .second, .val (.int v1), .val (.long v55), .second, .val (.int v56), .val (.int v57), .val (.int v58), .val (.int v59), .unset, .unset, .unset, .unset, .unset, .unset, .unset, .unset, .unset, .unset, .unset, .unset, .unset, .unset, .unset] [(.int v57), (.int (v58 - (1 : Int32)))])) _
      refine XS.idiv X201.here hx rfl (hb hby at_93) rfl hnz93_204 ?_
      show Steps p.tables e below (T201.setTop (mkF m 94 #[.val (.int p0), .val (.int p1), .val (.int p2), .val (.int p3), .val (.long q4), .second, .val (.long q5), .second, .val (.int v1), .val (.long v55), .second, .val (.int v56), .val (.int v57), .val (.int v58), .val (.int v59), .unset, .unset, .unset, .unset, .unset, .unset, .unset, .unset, .unset, .unset, .unset, .unset, .unset, .unset, .unset] [(.int ((v58 - (1 : Int32)) / v57))])) _
      rw [← hv60]
      show Steps p.tables e below (T201.setTop (mkF m 94 #[.val (.int p0), .val (.int p1), .val (.int p2), .val (.int p3), .val (.long q4), .second, .val (.long q5), .second, .val (.int v1), .val (.long v55), .second, .val (.int v56), .val (.int v57), .val (.int v58), .val (.int v59), .unset, .unset, .unset, .unset, .unset, .unset, .unset, .unset, .unset, .unset, .unset, .unset, .unset, .unset, .unset] [(.int v60)])) _
      refine XS.istore X201.here hx rfl (hb hby at_94) rfl (l' := #[.val (.int p0), .val (.int p1), .val (.int p2), .val (.int p3), .val (.long q4), .second, .val (.long q5), .second, .val (.int v1), .val (.long v55), .second, .val (.int v56), .val (.int v57), .val (.int v58), .val (.int v59), .val (.int v60), .unset, .unset, .unset, .unset, .unset, .unset, .unset, .unset, .unset, .unset, .unset, .unset, .unset, .unset]) rfl ?_
      show Steps p.tables e below (T201.setTop (mkF m 96 #[.val (.int p0), .val (.int p1), .val (.int p2), .val (.int p3), .val (.long q4), .second, .val (.long q5), .second, .val (.int v1), .val (.long v55), .second, .val (.int v56), .val (.int v57), .val (.int v58), .val (.int v59), .val (.int v60), .unset, .unset, .unset, .unset, .unset, .unset, .unset, .unset, .unset, .unset, .unset, .unset, .unset, .unset] [])) _
      refine XS.iload X201.here hx rfl (hb hby at_96) rfl ?_
      show Steps p.tables e below (T201.setTop (mkF m 98 #[.val (.int p0), .val (.int p1), .val (.int p2), .val (.int p3), .val (.long q4), .second, .val (.long q5), .second, .val (.int v1), .val (.long v55), .second, .val (.int v56), .val (.int v57), .val (.int v58), .val (.int v59), .val (.int v60), .unset, .unset, .unset, .unset, .unset, .unset, .unset, .unset, .unset, .unset, .unset, .unset, .unset, .unset] [(.int v58)])) _
      refine XS.iconst X201.here hx rfl (hb hby at_98) ?_
      show Steps p.tables e below (T201.setTop (mkF m 99 #[.val (.int p0), .val (.int p1), .val (.int p2), .val (.int p3), .val (.long q4), .second, .val (.long q5), .second, .val (.int v1), .val (.long v55), .second, .val (.int v56), .val (.int v57), .val (.int v58), .val (.int v59), .val (.int v60), .unset, .unset, .unset, .unset, .unset, .unset, .unset, .unset, .unset, .unset, .unset, .unset, .unset, .unset] [(.int (1 : Int32)), (.int v58)])) _
      refine XS.isub X201.here hx rfl (hb hby at_99) rfl ?_
      show Steps p.tables e below (T201.setTop (mkF m 100 #[.val (.int p0), .val (.int p1), .val (.int p2), .val (.int p3), .val (.long q4), .second, .val (.long q5), .second, .val (.int v1), .val (.long v55), .second, .val (.int v56), .val (.int v57), .val (.int v58), .val (.int v59), .val (.int v60), .unset, .unset, .unset, .unset, .unset, .unset, .unset, .unset, .unset, .unset, .unset, .unset, .unset, .unset] [(.int (v58 - (1 : Int32)))])) _
      refine XS.iload X201.here hx rfl (hb hby at_100) rfl ?_
      show Steps p.tables e below (T201.setTop (mkF m 102 #[.val (.int p0), .val (.int p1), .val (.int p2), .val (.int p3), .val (.long q4), .second, .val (.long q5), .second, .val (.int v1), .val (.long v55), .second, .val (.int v56), .val (.int v57), .val (.int v58), .val (.int v59), .val (.int v60), .unset, .unset, .unset, .unset, .unset, .unset, .unset, .unset, .unset, .unset, .unset, .unset, .unset, .unset] [(.int v57), (.int (v58 - (1 : Int32)))])) _
      refine XS.irem X201.here hx rfl (hb hby at_102) rfl hnz102_205 ?_
      rw [own_remI (v58 - (1 : Int32)) v57]
      show Steps p.tables e below (T201.setTop (mkF m 103 #[.val (.int p0), .val (.int p1), .val (.int p2), .val (.int p3), .val (.long q4), .second, .val (.long q5), .second, .val (.int v1), .val (.long v55), .second, .val (.int v56), .val (.int v57), .val (.int v58), .val (.int v59), .val (.int v60), .unset, .unset, .unset, .unset, .unset, .unset, .unset, .unset, .unset, .unset, .unset, .unset, .unset, .unset] [(.int ((v58 - (1 : Int32)) % v57))])) _
      refine XS.iload X201.here hx rfl (hb hby at_103) rfl ?_
      show Steps p.tables e below (T201.setTop (mkF m 105 #[.val (.int p0), .val (.int p1), .val (.int p2), .val (.int p3), .val (.long q4), .second, .val (.long q5), .second, .val (.int v1), .val (.long v55), .second, .val (.int v56), .val (.int v57), .val (.int v58), .val (.int v59), .val (.int v60), .unset, .unset, .unset, .unset, .unset, .unset, .unset, .unset, .unset, .unset, .unset, .unset, .unset, .unset] [(.int v1), (.int ((v58 - (1 : Int32)) % v57))])) _
      refine XS.imul X201.here hx rfl (hb hby at_105) rfl ?_
      show Steps p.tables e below (T201.setTop (mkF m 106 #[.val (.int p0), .val (.int p1), .val (.int p2), .val (.int p3), .val (.long q4), .second, .val (.long q5), .second, .val (.int v1), .val (.long v55), .second, .val (.int v56), .val (.int v57), .val (.int v58), .val (.int v59), .val (.int v60), .unset, .unset, .unset, .unset, .unset, .unset, .unset, .unset, .unset, .unset, .unset, .unset, .unset, .unset] [(.int (((v58 - (1 : Int32)) % v57) * v1))])) _
      rw [← hv61]
      show Steps p.tables e below (T201.setTop (mkF m 106 #[.val (.int p0), .val (.int p1), .val (.int p2), .val (.int p3), .val (.long q4), .second, .val (.long q5), .second, .val (.int v1), .val (.long v55), .second, .val (.int v56), .val (.int v57), .val (.int v58), .val (.int v59), .val (.int v60), .unset, .unset, .unset, .unset, .unset, .unset, .unset, .unset, .unset, .unset, .unset, .unset, .unset, .unset] [(.int v61)])) _
      refine XS.istore X201.here hx rfl (hb hby at_106) rfl (l' := #[.val (.int p0), .val (.int p1), .val (.int p2), .val (.int p3), .val (.long q4), .second, .val (.long q5), .second, .val (.int v1), .val (.long v55), .second, .val (.int v56), .val (.int v57), .val (.int v58), .val (.int v59), .val (.int v60), .val (.int v61), .unset, .unset, .unset, .unset, .unset, .unset, .unset, .unset, .unset, .unset, .unset, .unset, .unset]) rfl ?_
      show Steps p.tables e below (T201.setTop (mkF m 108 #[.val (.int p0), .val (.int p1), .val (.int p2), .val (.int p3), .val (.long q4), .second, .val (.long q5), .second, .val (.int v1), .val (.long v55), .second, .val (.int v56), .val (.int v57), .val (.int v58), .val (.int v59), .val (.int v60), .val (.int v61), .unset, .unset, .unset, .unset, .unset, .unset, .unset, .unset, .unset, .unset, .unset, .unset, .unset] [])) _
      refine XS.bipush X201.here hx rfl (hb hby at_108) ?_
      show Steps p.tables e below (T201.setTop (mkF m 110 #[.val (.int p0), .val (.int p1), .val (.int p2), .val (.int p3), .val (.long q4), .second, .val (.long q5), .second, .val (.int v1), .val (.long v55), .second, .val (.int v56), .val (.int v57), .val (.int v58), .val (.int v59), .val (.int v60), .val (.int v61), .unset, .unset, .unset, .unset, .unset, .unset, .unset, .unset, .unset, .unset, .unset, .unset, .unset] [(.int (64 : Int32))])) _
      refine st206 _ ?_
      show Steps p.tables e below (T206.setTop (mkF m 112 #[.val (.int p0), .val (.int p1), .val (.int p2), .val (.int p3), .val (.long q4), .second, .val (.long q5), .second, .val (.int v1), .val (.long v55), .second, .val (.int v56), .val (.int v57), .val (.int v58), .val (.int v59), .val (.int v60), .val (.int v61), .unset, .unset, .unset, .unset, .unset, .unset, .unset, .unset, .unset, .unset, .unset, .unset, .unset] [(.ref b206)])) _
      refine XS.astore X206.here hx rfl (hb hby at_112) rfl rfl (l' := #[.val (.int p0), .val (.int p1), .val (.int p2), .val (.int p3), .val (.long q4), .second, .val (.long q5), .second, .val (.int v1), .val (.long v55), .second, .val (.int v56), .val (.int v57), .val (.int v58), .val (.int v59), .val (.int v60), .val (.int v61), .val (.ref b206), .unset, .unset, .unset, .unset, .unset, .unset, .unset, .unset, .unset, .unset, .unset, .unset]) rfl ?_
      show Steps p.tables e below (T206.setTop (mkF m 114 #[.val (.int p0), .val (.int p1), .val (.int p2), .val (.int p3), .val (.long q4), .second, .val (.long q5), .second, .val (.int v1), .val (.long v55), .second, .val (.int v56), .val (.int v57), .val (.int v58), .val (.int v59), .val (.int v60), .val (.int v61), .val (.ref b206), .unset, .unset, .unset, .unset, .unset, .unset, .unset, .unset, .unset, .unset, .unset, .unset] [])) _
      refine XS.aload X206.here hx rfl (hb hby at_114) rfl rfl ?_
      show Steps p.tables e below (T206.setTop (mkF m 116 #[.val (.int p0), .val (.int p1), .val (.int p2), .val (.int p3), .val (.long q4), .second, .val (.long q5), .second, .val (.int v1), .val (.long v55), .second, .val (.int v56), .val (.int v57), .val (.int v58), .val (.int v59), .val (.int v60), .val (.int v61), .val (.ref b206), .unset, .unset, .unset, .unset, .unset, .unset, .unset, .unset, .unset, .unset, .unset, .unset] [(.ref b206)])) _
      refine XS.iload X206.here hx rfl (hb hby at_116) rfl ?_
      show Steps p.tables e below (T206.setTop (mkF m 118 #[.val (.int p0), .val (.int p1), .val (.int p2), .val (.int p3), .val (.long q4), .second, .val (.long q5), .second, .val (.int v1), .val (.long v55), .second, .val (.int v56), .val (.int v57), .val (.int v58), .val (.int v59), .val (.int v60), .val (.int v61), .val (.ref b206), .unset, .unset, .unset, .unset, .unset, .unset, .unset, .unset, .unset, .unset, .unset, .unset] [(.int v60), (.ref b206)])) _
      refine XS.lload X206.here hx rfl (hb hby at_118) rfl ?_
      show Steps p.tables e below (T206.setTop (mkF m 120 #[.val (.int p0), .val (.int p1), .val (.int p2), .val (.int p3), .val (.long q4), .second, .val (.long q5), .second, .val (.int v1), .val (.long v55), .second, .val (.int v56), .val (.int v57), .val (.int v58), .val (.int v59), .val (.int v60), .val (.int v61), .val (.ref b206), .unset, .unset, .unset, .unset, .unset, .unset, .unset, .unset, .unset, .unset, .unset, .unset] [(.long q4), (.int v60), (.ref b206)])) _
      refine st211 _ ?_
      show Steps p.tables e below (T211.setTop (mkF m 121 #[.val (.int p0), .val (.int p1), .val (.int p2), .val (.int p3), .val (.long q4), .second, .val (.long q5), .second, .val (.int v1), .val (.long v55), .second, .val (.int v56), .val (.int v57), .val (.int v58), .val (.int v59), .val (.int v60), .val (.int v61), .val (.ref b206), .unset, .unset, .unset, .unset, .unset, .unset, .unset, .unset, .unset, .unset, .unset, .unset] [])) _
      refine XS.aload X211.here hx rfl (hb hby at_121) rfl rfl ?_
      show Steps p.tables e below (T211.setTop (mkF m 123 #[.val (.int p0), .val (.int p1), .val (.int p2), .val (.int p3), .val (.long q4), .second, .val (.long q5), .second, .val (.int v1), .val (.long v55), .second, .val (.int v56), .val (.int v57), .val (.int v58), .val (.int v59), .val (.int v60), .val (.int v61), .val (.ref b206), .unset, .unset, .unset, .unset, .unset, .unset, .unset, .unset, .unset, .unset, .unset, .unset] [(.ref b206)])) _
      refine XS.iload X211.here hx rfl (hb hby at_123) rfl ?_
      show Steps p.tables e below (T211.setTop (mkF m 125 #[.val (.int p0), .val (.int p1), .val (.int p2), .val (.int p3), .val (.long q4), .second, .val (.long q5), .second, .val (.int v1), .val (.long v55), .second, .val (.int v56), .val (.int v57), .val (.int v58), .val (.int v59), .val (.int v60), .val (.int v61), .val (.ref b206), .unset, .unset, .unset, .unset, .unset, .unset, .unset, .unset, .unset, .unset, .unset, .unset] [(.int v60), (.ref b206)])) _
      refine XS.iconst X211.here hx rfl (hb hby at_125) ?_
      show Steps p.tables e below (T211.setTop (mkF m 126 #[.val (.int p0), .val (.int p1), .val (.int p2), .val (.int p3), .val (.long q4), .second, .val (.long q5), .second, .val (.int v1), .val (.long v55), .second, .val (.int v56), .val (.int v57), .val (.int v58), .val (.int v59), .val (.int v60), .val (.int v61), .val (.ref b206), .unset, .unset, .unset, .unset, .unset, .unset, .unset, .unset, .unset, .unset, .unset, .unset] [(.int (1 : Int32)), (.int v60), (.ref b206)])) _
      refine XS.iadd X211.here hx rfl (hb hby at_126) rfl ?_
      show Steps p.tables e below (T211.setTop (mkF m 127 #[.val (.int p0), .val (.int p1), .val (.int p2), .val (.int p3), .val (.long q4), .second, .val (.long q5), .second, .val (.int v1), .val (.long v55), .second, .val (.int v56), .val (.int v57), .val (.int v58), .val (.int v59), .val (.int v60), .val (.int v61), .val (.ref b206), .unset, .unset, .unset, .unset, .unset, .unset, .unset, .unset, .unset, .unset, .unset, .unset] [(.int (v60 + (1 : Int32))), (.ref b206)])) _
      refine XS.lload X211.here hx rfl (hb hby at_127) rfl ?_
      show Steps p.tables e below (T211.setTop (mkF m 129 #[.val (.int p0), .val (.int p1), .val (.int p2), .val (.int p3), .val (.long q4), .second, .val (.long q5), .second, .val (.int v1), .val (.long v55), .second, .val (.int v56), .val (.int v57), .val (.int v58), .val (.int v59), .val (.int v60), .val (.int v61), .val (.ref b206), .unset, .unset, .unset, .unset, .unset, .unset, .unset, .unset, .unset, .unset, .unset, .unset] [(.long q5), (.int (v60 + (1 : Int32))), (.ref b206)])) _
      rw [← hv64]
      refine st216 _ ?_
      show Steps p.tables e below (T216.setTop (mkF m 130 #[.val (.int p0), .val (.int p1), .val (.int p2), .val (.int p3), .val (.long q4), .second, .val (.long q5), .second, .val (.int v1), .val (.long v55), .second, .val (.int v56), .val (.int v57), .val (.int v58), .val (.int v59), .val (.int v60), .val (.int v61), .val (.ref b206), .unset, .unset, .unset, .unset, .unset, .unset, .unset, .unset, .unset, .unset, .unset, .unset] [])) _
      refine st220 _ ?_
      show Steps p.tables e below (T220.setTop (mkF m 133 #[.val (.int p0), .val (.int p1), .val (.int p2), .val (.int p3), .val (.long q4), .second, .val (.long q5), .second, .val (.int v1), .val (.long v55), .second, .val (.int v56), .val (.int v57), .val (.int v58), .val (.int v59), .val (.int v60), .val (.int v61), .val (.ref b206), .unset, .unset, .unset, .unset, .unset, .unset, .unset, .unset, .unset, .unset, .unset, .unset] [(.ref b220)])) _
      refine XS.dup X220.here hx rfl (hb hby at_133) rfl rfl ?_
      show Steps p.tables e below (T220.setTop (mkF m 134 #[.val (.int p0), .val (.int p1), .val (.int p2), .val (.int p3), .val (.long q4), .second, .val (.long q5), .second, .val (.int v1), .val (.long v55), .second, .val (.int v56), .val (.int v57), .val (.int v58), .val (.int v59), .val (.int v60), .val (.int v61), .val (.ref b206), .unset, .unset, .unset, .unset, .unset, .unset, .unset, .unset, .unset, .unset, .unset, .unset] [(.ref b220), (.ref b220)])) _
      refine XS.bipush X220.here hx rfl (hb hby at_134) ?_
      show Steps p.tables e below (T220.setTop (mkF m 136 #[.val (.int p0), .val (.int p1), .val (.int p2), .val (.int p3), .val (.long q4), .second, .val (.long q5), .second, .val (.int v1), .val (.long v55), .second, .val (.int v56), .val (.int v57), .val (.int v58), .val (.int v59), .val (.int v60), .val (.int v61), .val (.ref b206), .unset, .unset, .unset, .unset, .unset, .unset, .unset, .unset, .unset, .unset, .unset, .unset] [(.int (64 : Int32)), (.ref b220), (.ref b220)])) _
      refine XS.iload X220.here hx rfl (hb hby at_136) rfl ?_
      show Steps p.tables e below (T220.setTop (mkF m 138 #[.val (.int p0), .val (.int p1), .val (.int p2), .val (.int p3), .val (.long q4), .second, .val (.long q5), .second, .val (.int v1), .val (.long v55), .second, .val (.int v56), .val (.int v57), .val (.int v58), .val (.int v59), .val (.int v60), .val (.int v61), .val (.ref b206), .unset, .unset, .unset, .unset, .unset, .unset, .unset, .unset, .unset, .unset, .unset, .unset] [(.int v56), (.int (64 : Int32)), (.ref b220), (.ref b220)])) _
      refine st232.trans ?_
      show Steps p.tables e below (T232.setTop (mkF m 141 #[.val (.int p0), .val (.int p1), .val (.int p2), .val (.int p3), .val (.long q4), .second, .val (.long q5), .second, .val (.int v1), .val (.long v55), .second, .val (.int v56), .val (.int v57), .val (.int v58), .val (.int v59), .val (.int v60), .val (.int v61), .val (.ref b206), .unset, .unset, .unset, .unset, .unset, .unset, .unset, .unset, .unset, .unset, .unset, .unset] [(.ref b220)])) _
      refine XS.astore X232.here hx rfl (hb hby at_141) rfl rfl (l' := #[.val (.int p0), .val (.int p1), .val (.int p2), .val (.int p3), .val (.long q4), .second, .val (.long q5), .second, .val (.int v1), .val (.long v55), .second, .val (.int v56), .val (.int v57), .val (.int v58), .val (.int v59), .val (.int v60), .val (.int v61), .val (.ref b206), .val (.ref b220), .unset, .unset, .unset, .unset, .unset, .unset, .unset, .unset, .unset, .unset, .unset]) rfl ?_
      show Steps p.tables e below (T232.setTop (mkF m 143 #[.val (.int p0), .val (.int p1), .val (.int p2), .val (.int p3), .val (.long q4), .second, .val (.long q5), .second, .val (.int v1), .val (.long v55), .second, .val (.int v56), .val (.int v57), .val (.int v58), .val (.int v59), .val (.int v60), .val (.int v61), .val (.ref b206), .val (.ref b220), .unset, .unset, .unset, .unset, .unset, .unset, .unset, .unset, .unset, .unset, .unset] [])) _
      refine XS.aload X232.here hx rfl (hb hby at_143) rfl rfl ?_
      show Steps p.tables e below (T232.setTop (mkF m 145 #[.val (.int p0), .val (.int p1), .val (.int p2), .val (.int p3), .val (.long q4), .second, .val (.long q5), .second, .val (.int v1), .val (.long v55), .second, .val (.int v56), .val (.int v57), .val (.int v58), .val (.int v59), .val (.int v60), .val (.int v61), .val (.ref b206), .val (.ref b220), .unset, .unset, .unset, .unset, .unset, .unset, .unset, .unset, .unset, .unset, .unset] [(.ref b220)])) _
      refine XS.aload X232.here hx rfl (hb hby at_145) rfl rfl ?_
      show Steps p.tables e below (T232.setTop (mkF m 147 #[.val (.int p0), .val (.int p1), .val (.int p2), .val (.int p3), .val (.long q4), .second, .val (.long q5), .second, .val (.int v1), .val (.long v55), .second, .val (.int v56), .val (.int v57), .val (.int v58), .val (.int v59), .val (.int v60), .val (.int v61), .val (.ref b206), .val (.ref b220), .unset, .unset, .unset, .unset, .unset, .unset, .unset, .unset, .unset, .unset, .unset] [(.ref b206), (.ref b220)])) _
      refine XS.iload X232.here hx rfl (hb hby at_147) rfl ?_
      show Steps p.tables e below (T232.setTop (mkF m 149 #[.val (.int p0), .val (.int p1), .val (.int p2), .val (.int p3), .val (.long q4), .second, .val (.long q5), .second, .val (.int v1), .val (.long v55), .second, .val (.int v56), .val (.int v57), .val (.int v58), .val (.int v59), .val (.int v60), .val (.int v61), .val (.ref b206), .val (.ref b220), .unset, .unset, .unset, .unset, .unset, .unset, .unset, .unset, .unset, .unset, .unset] [(.int v58), (.ref b206), (.ref b220)])) _
      refine XS.iload X232.here hx rfl (hb hby at_149) rfl ?_
      show Steps p.tables e below (T232.setTop (mkF m 151 #[.val (.int p0), .val (.int p1), .val (.int p2), .val (.int p3), .val (.long q4), .second, .val (.long q5), .second, .val (.int v1), .val (.long v55), .second, .val (.int v56), .val (.int v57), .val (.int v58), .val (.int v59), .val (.int v60), .val (.int v61), .val (.ref b206), .val (.ref b220), .unset, .unset, .unset, .unset, .unset, .unset, .unset, .unset, .unset, .unset, .unset] [(.int v59), (.int v58), (.ref b206), (.ref b220)])) _
      refine st237.trans ?_
      show Steps p.tables e below (T237.setTop (mkF m 154 #[.val (.int p0), .val (.int p1), .val (.int p2), .val (.int p3), .val (.long q4), .second, .val (.long q5), .second, .val (.int v1), .val (.long v55), .second, .val (.int v56), .val (.int v57), .val (.int v58), .val (.int v59), .val (.int v60), .val (.int v61), .val (.ref b206), .val (.ref b220), .unset, .unset, .unset, .unset, .unset, .unset, .unset, .unset, .unset, .unset, .unset] [])) _
      refine XS.lconst X237.here hx rfl (hb hby at_154) ?_
      show Steps p.tables e below (T237.setTop (mkF m 155 #[.val (.int p0), .val (.int p1), .val (.int p2), .val (.int p3), .val (.long q4), .second, .val (.long q5), .second, .val (.int v1), .val (.long v55), .second, .val (.int v56), .val (.int v57), .val (.int v58), .val (.int v59), .val (.int v60), .val (.int v61), .val (.ref b206), .val (.ref b220), .unset, .unset, .unset, .unset, .unset, .unset, .unset, .unset, .unset, .unset, .unset] [(.long (1 : Int64))])) _
      refine XS.iload X237.here hx rfl (hb hby at_155) rfl ?_
      show Steps p.tables e below (T237.setTop (mkF m 157 #[.val (.int p0), .val (.int p1), .val (.int p2), .val (.int p3), .val (.long q4), .second, .val (.long q5), .second, .val (.int v1), .val (.long v55), .second, .val (.int v56), .val (.int v57), .val (.int v58), .val (.int v59), .val (.int v60), .val (.int v61), .val (.ref b206), .val (.ref b220), .unset, .unset, .unset, .unset, .unset, .unset, .unset, .unset, .unset, .unset, .unset] [(.int v1), (.long (1 : Int64))])) _
      refine XS.lshl X237.here hx rfl (hb hby at_157) rfl ?_
      show Steps p.tables e below (T237.setTop (mkF m 158 #[.val (.int p0), .val (.int p1), .val (.int p2), .val (.int p3), .val (.long q4), .second, .val (.long q5), .second, .val (.int v1), .val (.long v55), .second, .val (.int v56), .val (.int v57), .val (.int v58), .val (.int v59), .val (.int v60), .val (.int v61), .val (.ref b206), .val (.ref b220), .unset, .unset, .unset, .unset, .unset, .unset, .unset, .unset, .unset, .unset, .unset] [(.long ((1 : Int64) <<< (v1 &&& 0x3f).toInt64))])) _
      refine XS.lconst X237.here hx rfl (hb hby at_158) ?_
      show Steps p.tables e below (T237.setTop (mkF m 159 #[.val (.int p0), .val (.int p1), .val (.int p2), .val (.int p3), .val (.long q4), .second, .val (.long q5), .second, .val (.int v1), .val (.long v55), .second, .val (.int v56), .val (.int v57), .val (.int v58), .val (.int v59), .val (.int v60), .val (.int v61), .val (.ref b206), .val (.ref b220), .unset, .unset, .unset, .unset, .unset, .unset, .unset, .unset, .unset, .unset, .unset] [(.long (1 : Int64)), (.long ((1 : Int64) <<< (v1 &&& 0x3f).toInt64))])) _
      refine XS.lsub X237.here hx rfl (hb hby at_159) rfl ?_
      show Steps p.tables e below (T237.setTop (mkF m 160 #[.val (.int p0), .val (.int p1), .val (.int p2), .val (.int p3), .val (.long q4), .second, .val (.long q5), .second, .val (.int v1), .val (.long v55), .second, .val (.int v56), .val (.int v57), .val (.int v58), .val (.int v59), .val (.int v60), .val (.int v61), .val (.ref b206), .val (.ref b220), .unset, .unset, .unset, .unset, .unset, .unset, .unset, .unset, .unset, .unset, .unset] [(.long (((1 : Int64) <<< (v1 &&& 0x3f).toInt64) - (1 : Int64)))])) _
      rw [← hv67]
      show Steps p.tables e below (T237.setTop (mkF m 160 #[.val (.int p0), .val (.int p1), .val (.int p2), .val (.int p3), .val (.long q4), .second, .val (.long q5), .second, .val (.int v1), .val (.long v55), .second, .val (.int v56), .val (.int v57), .val (.int v58), .val (.int v59), .val (.int v60), .val (.int v61), .val (.ref b206), .val (.ref b220), .unset, .unset, .unset, .unset, .unset, .unset, .unset, .unset, .unset, .unset, .unset] [(.long v67)])) _
      refine XS.lstore X237.here hx rfl (hb hby at_160) rfl (l' := #[.val (.int p0), .val (.int p1), .val (.int p2), .val (.int p3), .val (.long q4), .second, .val (.long q5), .second, .val (.int v1), .val (.long v55), .second, .val (.int v56), .val (.int v57), .val (.int v58), .val (.int v59), .val (.int v60), .val (.int v61), .val (.ref b206), .val (.ref b220), .val (.long v67), .second, .unset, .unset, .unset, .unset, .unset, .unset, .unset, .unset, .unset]) rfl ?_
      show Steps p.tables e below (T237.setTop (mkF m 162 #[.val (.int p0), .val (.int p1), .val (.int p2), .val (.int p3), .val (.long q4), .second, .val (.long q5), .second, .val (.int v1), .val (.long v55), .second, .val (.int v56), .val (.int v57), .val (.int v58), .val (.int v59), .val (.int v60), .val (.int v61), .val (.ref b206), .val (.ref b220), .val (.long v67), .second, .unset, .unset, .unset, .unset, .unset, .unset, .unset, .unset, .unset] [])) _
      refine XS.aload X237.here hx rfl (hb hby at_162) rfl rfl ?_
      show Steps p.tables e below (T237.setTop (mkF m 164 #[.val (.int p0), .val (.int p1), .val (.int p2), .val (.int p3), .val (.long q4), .second, .val (.long q5), .second, .val (.int v1), .val (.long v55), .second, .val (.int v56), .val (.int v57), .val (.int v58), .val (.int v59), .val (.int v60), .val (.int v61), .val (.ref b206), .val (.ref b220), .val (.long v67), .second, .unset, .unset, .unset, .unset, .unset, .unset, .unset, .unset, .unset] [(.ref b206)])) _
      refine XS.iload X237.here hx rfl (hb hby at_164) rfl ?_
      show Steps p.tables e below (T237.setTop (mkF m 166 #[.val (.int p0), .val (.int p1), .val (.int p2), .val (.int p3), .val (.long q4), .second, .val (.long q5), .second, .val (.int v1), .val (.long v55), .second, .val (.int v56), .val (.int v57), .val (.int v58), .val (.int v59), .val (.int v60), .val (.int v61), .val (.ref b206), .val (.ref b220), .val (.long v67), .second, .unset, .unset, .unset, .unset, .unset, .unset, .unset, .unset, .unset] [(.int v60), (.ref b206)])) _
      refine own_ldJ X237 hx hZ (rfl : T237.heap = T237.heap) F237_0n (j := v60) hin166_244 (g := (mkF m 166 #[.val (.int p0), .val (.int p1), .val (.int p2), .val (.int p3), .val (.long q4), .second, .val (.long q5), .second, .val (.int v1), .val (.long v55), .second, .val (.int v56), .val (.int v57), .val (.int v58), .val (.int v59), .val (.int v60), .val (.int v61), .val (.ref b206), .val (.ref b220), .val (.long v67), .second, .unset, .unset, .unset, .unset, .unset, .unset, .unset, .unset, .unset] [(.int v60), (.ref b206)])) rfl rfl (hb hby at_166) _ ?_
      show Steps p.tables e below (T237.setTop (mkF m 167 #[.val (.int p0), .val (.int p1), .val (.int p2), .val (.int p3), .val (.long q4), .second, .val (.long q5), .second, .val (.int v1), .val (.long v55), .second, .val (.int v56), .val (.int v57), .val (.int v58), .val (.int v59), .val (.int v60), .val (.int v61), .val (.ref b206), .val (.ref b220), .val (.long v67), .second, .unset, .unset, .unset, .unset, .unset, .unset, .unset, .unset, .unset] [(.long (v66 v60.toNatClampNeg))])) _
      refine XS.lload X237.here hx rfl (hb hby at_167) rfl ?_
      show Steps p.tables e below (T237.setTop (mkF m 169 #[.val (.int p0), .val (.int p1), .val (.int p2), .val (.int p3), .val (.long q4), .second, .val (.long q5), .second, .val (.int v1), .val (.long v55), .second, .val (.int v56), .val (.int v57), .val (.int v58), .val (.int v59), .val (.int v60), .val (.int v61), .val (.ref b206), .val (.ref b220), .val (.long v67), .second, .unset, .unset, .unset, .unset, .unset, .unset, .unset, .unset, .unset] [(.long q4), (.long (v66 v60.toNatClampNeg))])) _
      refine XS.lxor X237.here hx rfl (hb hby at_169) rfl ?_
      show Steps p.tables e below (T237.setTop (mkF m 170 #[.val (.int p0), .val (.int p1), .val (.int p2), .val (.int p3), .val (.long q4), .second, .val (.long q5), .second, .val (.int v1), .val (.long v55), .second, .val (.int v56), .val (.int v57), .val (.int v58), .val (.int v59), .val (.int v60), .val (.int v61), .val (.ref b206), .val (.ref b220), .val (.long v67), .second, .unset, .unset, .unset, .unset, .unset, .unset, .unset, .unset, .unset] [(.long ((v66 v60.toNatClampNeg) ^^^ q4))])) _
      rw [← hv68]
      show Steps p.tables e below (T237.setTop (mkF m 170 #[.val (.int p0), .val (.int p1), .val (.int p2), .val (.int p3), .val (.long q4), .second, .val (.long q5), .second, .val (.int v1), .val (.long v55), .second, .val (.int v56), .val (.int v57), .val (.int v58), .val (.int v59), .val (.int v60), .val (.int v61), .val (.ref b206), .val (.ref b220), .val (.long v67), .second, .unset, .unset, .unset, .unset, .unset, .unset, .unset, .unset, .unset] [(.long v68)])) _
      refine XS.lstore X237.here hx rfl (hb hby at_170) rfl (l' := #[.val (.int p0), .val (.int p1), .val (.int p2), .val (.int p3), .val (.long q4), .second, .val (.long q5), .second, .val (.int v1), .val (.long v55), .second, .val (.int v56), .val (.int v57), .val (.int v58), .val (.int v59), .val (.int v60), .val (.int v61), .val (.ref b206), .val (.ref b220), .val (.long v67), .second, .val (.long v68), .second, .unset, .unset, .unset, .unset, .unset, .unset, .unset]) rfl ?_
      show Steps p.tables e below (T237.setTop (mkF m 172 #[.val (.int p0), .val (.int p1), .val (.int p2), .val (.int p3), .val (.long q4), .second, .val (.long q5), .second, .val (.int v1), .val (.long v55), .second, .val (.int v56), .val (.int v57), .val (.int v58), .val (.int v59), .val (.int v60), .val (.int v61), .val (.ref b206), .val (.ref b220), .val (.long v67), .second, .val (.long v68), .second, .unset, .unset, .unset, .unset, .unset, .unset, .unset] [])) _
      refine XS.lload X237.here hx rfl (hb hby at_172) rfl ?_
      show Steps p.tables e below (T237.setTop (mkF m 174 #[.val (.int p0), .val (.int p1), .val (.int p2), .val (.int p3), .val (.long q4), .second, .val (.long q5), .second, .val (.int v1), .val (.long v55), .second, .val (.int v56), .val (.int v57), .val (.int v58), .val (.int v59), .val (.int v60), .val (.int v61), .val (.ref b206), .val (.ref b220), .val (.long v67), .second, .val (.long v68), .second, .unset, .unset, .unset, .unset, .unset, .unset, .unset] [(.long v68)])) _
      refine XS.lconst X237.here hx rfl (hb hby at_174) ?_
      show Steps p.tables e below (T237.setTop (mkF m 175 #[.val (.int p0), .val (.int p1), .val (.int p2), .val (.int p3), .val (.long q4), .second, .val (.long q5), .second, .val (.int v1), .val (.long v55), .second, .val (.int v56), .val (.int v57), .val (.int v58), .val (.int v59), .val (.int v60), .val (.int v61), .val (.ref b206), .val (.ref b220), .val (.long v67), .second, .val (.long v68), .second, .unset, .unset, .unset, .unset, .unset, .unset, .unset] [(.long (1 : Int64)), (.long v68)])) _
      refine XS.iload X237.here hx rfl (hb hby at_175) rfl ?_
      show Steps p.tables e below (T237.setTop (mkF m 177 #[.val (.int p0), .val (.int p1), .val (.int p2), .val (.int p3), .val (.long q4), .second, .val (.long q5), .second, .val (.int v1), .val (.long v55), .second, .val (.int v56), .val (.int v57), .val (.int v58), .val (.int v59), .val (.int v60), .val (.int v61), .val (.ref b206), .val (.ref b220), .val (.long v67), .second, .val (.long v68), .second, .unset, .unset, .unset, .unset, .unset, .unset, .unset] [(.int v61), (.long (1 : Int64)), (.long v68)])) _
      refine XS.lshl X237.here hx rfl (hb hby at_177) rfl ?_
      show Steps p.tables e below (T237.setTop (mkF m 178 #[.val (.int p0), .val (.int p1), .val (.int p2), .val (.int p3), .val (.long q4), .second, .val (.long q5), .second, .val (.int v1), .val (.long v55), .second, .val (.int v56), .val (.int v57), .val (.int v58), .val (.int v59), .val (.int v60), .val (.int v61), .val (.ref b206), .val (.ref b220), .val (.long v67), .second, .val (.long v68), .second, .unset, .unset, .unset, .unset, .unset, .unset, .unset] [(.long ((1 : Int64) <<< (v61 &&& 0x3f).toInt64)), (.long v68)])) _
      refine XS.lconst X237.here hx rfl (hb hby at_178) ?_
      show Steps p.tables e below (T237.setTop (mkF m 179 #[.val (.int p0), .val (.int p1), .val (.int p2), .val (.int p3), .val (.long q4), .second, .val (.long q5), .second, .val (.int v1), .val (.long v55), .second, .val (.int v56), .val (.int v57), .val (.int v58), .val (.int v59), .val (.int v60), .val (.int v61), .val (.ref b206), .val (.ref b220), .val (.long v67), .second, .val (.long v68), .second, .unset, .unset, .unset, .unset, .unset, .unset, .unset] [(.long (1 : Int64)), (.long ((1 : Int64) <<< (v61 &&& 0x3f).toInt64)), (.long v68)])) _
      refine XS.lsub X237.here hx rfl (hb hby at_179) rfl ?_
      show Steps p.tables e below (T237.setTop (mkF m 180 #[.val (.int p0), .val (.int p1), .val (.int p2), .val (.int p3), .val (.long q4), .second, .val (.long q5), .second, .val (.int v1), .val (.long v55), .second, .val (.int v56), .val (.int v57), .val (.int v58), .val (.int v59), .val (.int v60), .val (.int v61), .val (.ref b206), .val (.ref b220), .val (.long v67), .second, .val (.long v68), .second, .unset, .unset, .unset, .unset, .unset, .unset, .unset] [(.long (((1 : Int64) <<< (v61 &&& 0x3f).toInt64) - (1 : Int64))), (.long v68)])) _
      refine XS.land X237.here hx rfl (hb hby at_180) rfl ?_
      show Steps p.tables e below (T237.setTop (mkF m 181 #[.val (.int p0), .val (.int p1), .val (.int p2), .val (.int p3), .val (.long q4), .second, .val (.long q5), .second, .val (.int v1), .val (.long v55), .second, .val (.int v56), .val (.int v57), .val (.int v58), .val (.int v59), .val (.int v60), .val (.int v61), .val (.ref b206), .val (.ref b220), .val (.long v67), .second, .val (.long v68), .second, .unset, .unset, .unset, .unset, .unset, .unset, .unset] [(.long (v68 &&& (((1 : Int64) <<< (v61 &&& 0x3f).toInt64) - (1 : Int64))))])) _
      refine XS.lconst X237.here hx rfl (hb hby at_181) ?_
      show Steps p.tables e below (T237.setTop (mkF m 182 #[.val (.int p0), .val (.int p1), .val (.int p2), .val (.int p3), .val (.long q4), .second, .val (.long q5), .second, .val (.int v1), .val (.long v55), .second, .val (.int v56), .val (.int v57), .val (.int v58), .val (.int v59), .val (.int v60), .val (.int v61), .val (.ref b206), .val (.ref b220), .val (.long v67), .second, .val (.long v68), .second, .unset, .unset, .unset, .unset, .unset, .unset, .unset] [(.long (0 : Int64)), (.long (v68 &&& (((1 : Int64) <<< (v61 &&& 0x3f).toInt64) - (1 : Int64))))])) _
      refine XS.lcmp X237.here hx rfl (hb hby at_182) rfl ?_
      show Steps p.tables e below (T237.setTop (mkF m 183 #[.val (.int p0), .val (.int p1), .val (.int p2), .val (.int p3), .val (.long q4), .second, .val (.long q5), .second, .val (.int v1), .val (.long v55), .second, .val (.int v56), .val (.int v57), .val (.int v58), .val (.int v59), .val (.int v60), .val (.int v61), .val (.ref b206), .val (.ref b220), .val (.long v67), .second, .val (.long v68), .second, .unset, .unset, .unset, .unset, .unset, .unset, .unset] [(.int (lcmpW (v68 &&& (((1 : Int64) <<< (v61 &&& 0x3f).toInt64) - (1 : Int64))) (0 : Int64)))])) _
      refine st247 _ ?_
      show Steps p.tables e below (T247.setTop (mkF m 191 #[.val (.int p0), .val (.int p1), .val (.int p2), .val (.int p3), .val (.long q4), .second, .val (.long q5), .second, .val (.int v1), .val (.long v55), .second, .val (.int v56), .val (.int v57), .val (.int v58), .val (.int v59), .val (.int v60), .val (.int v61), .val (.ref b206), .val (.ref b220), .val (.long v67), .second, .val (.long v68), .second, .unset, .unset, .unset, .unset, .unset, .unset, .unset] [(.int v70)])) _
      refine XS.istore X247.here hx rfl (hb hby at_191) rfl (l' := #[.val (.int p0), .val (.int p1), .val (.int p2), .val (.int p3), .val (.long q4), .second, .val (.long q5), .second, .val (.int v1), .val (.long v55), .second, .val (.int v56), .val (.int v57), .val (.int v58), .val (.int v59), .val (.int v60), .val (.int v61), .val (.ref b206), .val (.ref b220), .val (.long v67), .second, .val (.long v68), .second, .val (.int v70), .unset, .unset, .unset, .unset, .unset, .unset]) rfl ?_
      show Steps p.tables e below (T247.setTop (mkF m 193 #[.val (.int p0), .val (.int p1), .val (.int p2), .val (.int p3), .val (.long q4), .second, .val (.long q5), .second, .val (.int v1), .val (.long v55), .second, .val (.int v56), .val (.int v57), .val (.int v58), .val (.int v59), .val (.int v60), .val (.int v61), .val (.ref b206), .val (.ref b220), .val (.long v67), .second, .val (.long v68), .second, .val (.int v70), .unset, .unset, .unset, .unset, .unset, .unset] [])) _
      refine XS.lload X247.here hx rfl (hb hby at_193) rfl ?_
      show Steps p.tables e below (T247.setTop (mkF m 195 #[.val (.int p0), .val (.int p1), .val (.int p2), .val (.int p3), .val (.long q4), .second, .val (.long q5), .second, .val (.int v1), .val (.long v55), .second, .val (.int v56), .val (.int v57), .val (.int v58), .val (.int v59), .val (.int v60), .val (.int v61), .val (.ref b206), .val (.ref b220), .val (.long v67), .second, .val (.long v68), .second, .val (.int v70), .unset, .unset, .unset, .unset, .unset, .unset] [(.long v68)])) _
      refine XS.iload X247.here hx rfl (hb hby at_195) rfl ?_
      show Steps p.tables e below (T247.setTop (mkF m 197 #[.val (.int p0), .val (.int p1), .val (.int p2), .val (.int p3), .val (.long q4), .second, .val (.long q5), .second, .val (.int v1), .val (.long v55), .second, .val (.int v56), .val (.int v57), .val (.int v58), .val (.int v59), .val (.int v60), .val (.int v61), .val (.ref b206), .val (.ref b220), .val (.long v67), .second, .val (.long v68), .second, .val (.int v70), .unset, .unset, .unset, .unset, .unset, .unset] [(.int v61), (.long v68)])) _
      refine XS.lushr X247.here hx rfl (hb hby at_197) rfl ?_
      show Steps p.tables e below (T247.setTop (mkF m 198 #[.val (.int p0), .val (.int p1), .val (.int p2), .val (.int p3), .val (.long q4), .second, .val (.long q5), .second, .val (.int v1), .val (.long v55), .second, .val (.int v56), .val (.int v57), .val (.int v58), .val (.int v59), .val (.int v60), .val (.int v61), .val (.ref b206), .val (.ref b220), .val (.long v67), .second, .val (.long v68), .second, .val (.int v70), .unset, .unset, .unset, .unset, .unset, .unset] [(.long ((v68.toUInt64 >>> (v61 &&& 0x3f).toInt64.toUInt64).toInt64))])) _
      refine XS.iload X247.here hx rfl (hb hby at_198) rfl ?_
      show Steps p.tables e below (T247.setTop (mkF m 200 #[.val (.int p0), .val (.int p1), .val (.int p2), .val (.int p3), .val (.long q4), .second, .val (.long q5), .second, .val (.int v1), .val (.long v55), .second, .val (.int v56), .val (.int v57), .val (.int v58), .val (.int v59), .val (.int v60), .val (.int v61), .val (.ref b206), .val (.ref b220), .val (.long v67), .second, .val (.long v68), .second, .val (.int v70), .unset, .unset, .unset, .unset, .unset, .unset] [(.int v1), (.long ((v68.toUInt64 >>> (v61 &&& 0x3f).toInt64.toUInt64).toInt64))])) _
      refine XS.lushr X247.here hx rfl (hb hby at_200) rfl ?_
      show Steps p.tables e below (T247.setTop (mkF m 201 #[.val (.int p0), .val (.int p1), .val (.int p2), .val (.int p3), .val (.long q4), .second, .val (.long q5), .second, .val (.int v1), .val (.long v55), .second, .val (.int v56), .val (.int v57), .val (.int v58), .val (.int v59), .val (.int v60), .val (.int v61), .val (.ref b206), .val (.ref b220), .val (.long v67), .second, .val (.long v68), .second, .val (.int v70), .unset, .unset, .unset, .unset, .unset, .unset] [(.long ((((v68.toUInt64 >>> (v61 &&& 0x3f).toInt64.toUInt64).toInt64).toUInt64 >>> (v1 &&& 0x3f).toInt64.toUInt64).toInt64))])) _
      refine XS.lconst X247.here hx rfl (hb hby at_201) ?_
      show Steps p.tables e below (T247.setTop (mkF m 202 #[.val (.int p0), .val (.int p1), .val (.int p2), .val (.int p3), .val (.long q4), .second, .val (.long q5), .second, .val (.int v1), .val (.long v55), .second, .val (.int v56), .val (.int v57), .val (.int v58), .val (.int v59), .val (.int v60), .val (.int v61), .val (.ref b206), .val (.ref b220), .val (.long v67), .second, .val (.long v68), .second, .val (.int v70), .unset, .unset, .unset, .unset, .unset, .unset] [(.long (0 : Int64)), (.long ((((v68.toUInt64 >>> (v61 &&& 0x3f).toInt64.toUInt64).toInt64).toUInt64 >>> (v1 &&& 0x3f).toInt64.toUInt64).toInt64))])) _
      refine XS.lcmp X247.here hx rfl (hb hby at_202) rfl ?_
      show Steps p.tables e below (T247.setTop (mkF m 203 #[.val (.int p0), .val (.int p1), .val (.int p2), .val (.int p3), .val (.long q4), .second, .val (.long q5), .second, .val (.int v1), .val (.long v55), .second, .val (.int v56), .val (.int v57), .val (.int v58), .val (.int v59), .val (.int v60), .val (.int v61), .val (.ref b206), .val (.ref b220), .val (.long v67), .second, .val (.long v68), .second, .val (.int v70), .unset, .unset, .unset, .unset, .unset, .unset] [(.int (lcmpW ((((v68.toUInt64 >>> (v61 &&& 0x3f).toInt64.toUInt64).toInt64).toUInt64 >>> (v1 &&& 0x3f).toInt64.toUInt64).toInt64) (0 : Int64)))])) _
      refine st250 _ ?_
      show Steps p.tables e below (T250.setTop (mkF m 211 #[.val (.int p0), .val (.int p1), .val (.int p2), .val (.int p3), .val (.long q4), .second, .val (.long q5), .second, .val (.int v1), .val (.long v55), .second, .val (.int v56), .val (.int v57), .val (.int v58), .val (.int v59), .val (.int v60), .val (.int v61), .val (.ref b206), .val (.ref b220), .val (.long v67), .second, .val (.long v68), .second, .val (.int v70), .unset, .unset, .unset, .unset, .unset, .unset] [(.int v72)])) _
      refine XS.istore X250.here hx rfl (hb hby at_211) rfl (l' := #[.val (.int p0), .val (.int p1), .val (.int p2), .val (.int p3), .val (.long q4), .second, .val (.long q5), .second, .val (.int v1), .val (.long v55), .second, .val (.int v56), .val (.int v57), .val (.int v58), .val (.int v59), .val (.int v60), .val (.int v61), .val (.ref b206), .val (.ref b220), .val (.long v67), .second, .val (.long v68), .second, .val (.int v70), .val (.int v72), .unset, .unset, .unset, .unset, .unset]) rfl ?_
      show Steps p.tables e below (T250.setTop (mkF m 213 #[.val (.int p0), .val (.int p1), .val (.int p2), .val (.int p3), .val (.long q4), .second, .val (.long q5), .second, .val (.int v1), .val (.long v55), .second, .val (.int v56), .val (.int v57), .val (.int v58), .val (.int v59), .val (.int v60), .val (.int v61), .val (.ref b206), .val (.ref b220), .val (.long v67), .second, .val (.long v68), .second, .val (.int v70), .val (.int v72), .unset, .unset, .unset, .unset, .unset] [])) _
      refine XS.aload X250.here hx rfl (hb hby at_213) rfl rfl ?_
      show Steps p.tables e below (T250.setTop (mkF m 215 #[.val (.int p0), .val (.int p1), .val (.int p2), .val (.int p3), .val (.long q4), .second, .val (.long q5), .second, .val (.int v1), .val (.long v55), .second, .val (.int v56), .val (.int v57), .val (.int v58), .val (.int v59), .val (.int v60), .val (.int v61), .val (.ref b206), .val (.ref b220), .val (.long v67), .second, .val (.long v68), .second, .val (.int v70), .val (.int v72), .unset, .unset, .unset, .unset, .unset] [(.ref b206)])) _
      refine XS.iload X250.here hx rfl (hb hby at_215) rfl ?_
      show Steps p.tables e below (T250.setTop (mkF m 217 #[.val (.int p0), .val (.int p1), .val (.int p2), .val (.int p3), .val (.long q4), .second, .val (.long q5), .second, .val (.int v1), .val (.long v55), .second, .val (.int v56), .val (.int v57), .val (.int v58), .val (.int v59), .val (.int v60), .val (.int v61), .val (.ref b206), .val (.ref b220), .val (.long v67), .second, .val (.long v68), .second, .val (.int v70), .val (.int v72), .unset, .unset, .unset, .unset, .unset] [(.int v60), (.ref b206)])) _
      refine own_ldJ X250 hx hZ e250 F237_0n (j := v60) hin217_251 (g := (mkF m 217 #[.val (.int p0), .val (.int p1), .val (.int p2), .val (.int p3), .val (.long q4), .second, .val (.long q5), .second, .val (.int v1), .val (.long v55), .second, .val (.int v56), .val (.int v57), .val (.int v58), .val (.int v59), .val (.int v60), .val (.int v61), .val (.ref b206), .val (.ref b220), .val (.long v67), .second, .val (.long v68), .second, .val (.int v70), .val (.int v72), .unset, .unset, .unset, .unset, .unset] [(.int v60), (.ref b206)])) rfl rfl (hb hby at_217) _ ?_
      show Steps p.tables e below (T250.setTop (mkF m 218 #[.val (.int p0), .val (.int p1), .val (.int p2), .val (.int p3), .val (.long q4), .second, .val (.long q5), .second, .val (.int v1), .val (.long v55), .second, .val (.int v56), .val (.int v57), .val (.int v58), .val (.int v59), .val (.int v60), .val (.int v61), .val (.ref b206), .val (.ref b220), .val (.long v67), .second, .val (.long v68), .second, .val (.int v70), .val (.int v72), .unset, .unset, .unset, .unset, .unset] [(.long (v66 v60.toNatClampNeg))])) _
      refine XS.iload X250.here hx rfl (hb hby at_218) rfl ?_
      show Steps p.tables e below (T250.setTop (mkF m 220 #[.val (.int p0), .val (.int p1), .val (.int p2), .val (.int p3), .val (.long q4), .second, .val (.long q5), .second, .val (.int v1), .val (.long v55), .second, .val (.int v56), .val (.int v57), .val (.int v58), .val (.int v59), .val (.int v60), .val (.int v61), .val (.ref b206), .val (.ref b220), .val (.long v67), .second, .val (.long v68), .second, .val (.int v70), .val (.int v72), .unset, .unset, .unset, .unset, .unset] [(.int v61), (.long (v66 v60.toNatClampNeg))])) _
      refine XS.lushr X250.here hx rfl (hb hby at_220) rfl ?_
      show Steps p.tables e below (T250.setTop (mkF m 221 #[.val (.int p0), .val (.int p1), .val (.int p2), .val (.int p3), .val (.long q4), .second, .val (.long q5), .second, .val (.int v1), .val (.long v55), .second, .val (.int v56), .val (.int v57), .val (.int v58), .val (.int v59), .val (.int v60), .val (.int v61), .val (.ref b206), .val (.ref b220), .val (.long v67), .second, .val (.long v68), .second, .val (.int v70), .val (.int v72), .unset, .unset, .unset, .unset, .unset] [(.long (((v66 v60.toNatClampNeg).toUInt64 >>> (v61 &&& 0x3f).toInt64.toUInt64).toInt64))])) _
      refine XS.lload X250.here hx rfl (hb hby at_221) rfl ?_
      show Steps p.tables e below (T250.setTop (mkF m 223 #[.val (.int p0), .val (.int p1), .val (.int p2), .val (.int p3), .val (.long q4), .second, .val (.long q5), .second, .val (.int v1), .val (.long v55), .second, .val (.int v56), .val (.int v57), .val (.int v58), .val (.int v59), .val (.int v60), .val (.int v61), .val (.ref b206), .val (.ref b220), .val (.long v67), .second, .val (.long v68), .second, .val (.int v70), .val (.int v72), .unset, .unset, .unset, .unset, .unset] [(.long v67), (.long (((v66 v60.toNatClampNeg).toUInt64 >>> (v61 &&& 0x3f).toInt64.toUInt64).toInt64))])) _
      refine XS.land X250.here hx rfl (hb hby at_223) rfl ?_
      show Steps p.tables e below (T250.setTop (mkF m 224 #[.val (.int p0), .val (.int p1), .val (.int p2), .val (.int p3), .val (.long q4), .second, .val (.long q5), .second, .val (.int v1), .val (.long v55), .second, .val (.int v56), .val (.int v57), .val (.int v58), .val (.int v59), .val (.int v60), .val (.int v61), .val (.ref b206), .val (.ref b220), .val (.long v67), .second, .val (.long v68), .second, .val (.int v70), .val (.int v72), .unset, .unset, .unset, .unset, .unset] [(.long ((((v66 v60.toNatClampNeg).toUInt64 >>> (v61 &&& 0x3f).toInt64.toUInt64).toInt64) &&& v67))])) _
      refine XS.iload X250.here hx rfl (hb hby at_224) rfl ?_
      show Steps p.tables e below (T250.setTop (mkF m 226 #[.val (.int p0), .val (.int p1), .val (.int p2), .val (.int p3), .val (.long q4), .second, .val (.long q5), .second, .val (.int v1), .val (.long v55), .second, .val (.int v56), .val (.int v57), .val (.int v58), .val (.int v59), .val (.int v60), .val (.int v61), .val (.ref b206), .val (.ref b220), .val (.long v67), .second, .val (.long v68), .second, .val (.int v70), .val (.int v72), .unset, .unset, .unset, .unset, .unset] [(.int v59), (.long ((((v66 v60.toNatClampNeg).toUInt64 >>> (v61 &&& 0x3f).toInt64.toUInt64).toInt64) &&& v67))])) _
      refine XS.iconst X250.here hx rfl (hb hby at_226) ?_
      show Steps p.tables e below (T250.setTop (mkF m 227 #[.val (.int p0), .val (.int p1), .val (.int p2), .val (.int p3), .val (.long q4), .second, .val (.long q5), .second, .val (.int v1), .val (.long v55), .second, .val (.int v56), .val (.int v57), .val (.int v58), .val (.int v59), .val (.int v60), .val (.int v61), .val (.ref b206), .val (.ref b220), .val (.long v67), .second, .val (.long v68), .second, .val (.int v70), .val (.int v72), .unset, .unset, .unset, .unset, .unset] [(.int (1 : Int32)), (.int v59), (.long ((((v66 v60.toNatClampNeg).toUInt64 >>> (v61 &&& 0x3f).toInt64.toUInt64).toInt64) &&& v67))])) _
      refine XS.isub X250.here hx rfl (hb hby at_227) rfl ?_
      show Steps p.tables e below (T250.setTop (mkF m 228 #[.val (.int p0), .val (.int p1), .val (.int p2), .val (.int p3), .val (.long q4), .second, .val (.long q5), .second, .val (.int v1), .val (.long v55), .second, .val (.int v56), .val (.int v57), .val (.int v58), .val (.int v59), .val (.int v60), .val (.int v61), .val (.ref b206), .val (.ref b220), .val (.long v67), .second, .val (.long v68), .second, .val (.int v70), .val (.int v72), .unset, .unset, .unset, .unset, .unset] [(.int (v59 - (1 : Int32))), (.long ((((v66 v60.toNatClampNeg).toUInt64 >>> (v61 &&& 0x3f).toInt64.toUInt64).toInt64) &&& v67))])) _
      refine XS.i2l X250.here hx rfl (hb hby at_228) rfl ?_
      show Steps p.tables e below (T250.setTop (mkF m 229 #[.val (.int p0), .val (.int p1), .val (.int p2), .val (.int p3), .val (.long q4), .second, .val (.long q5), .second, .val (.int v1), .val (.long v55), .second, .val (.int v56), .val (.int v57), .val (.int v58), .val (.int v59), .val (.int v60), .val (.int v61), .val (.ref b206), .val (.ref b220), .val (.long v67), .second, .val (.long v68), .second, .val (.int v70), .val (.int v72), .unset, .unset, .unset, .unset, .unset] [(.long ((v59 - (1 : Int32)).toInt64)), (.long ((((v66 v60.toNatClampNeg).toUInt64 >>> (v61 &&& 0x3f).toInt64.toUInt64).toInt64) &&& v67))])) _
      refine XS.lcmp X250.here hx rfl (hb hby at_229) rfl ?_
      show Steps p.tables e below (T250.setTop (mkF m 230 #[.val (.int p0), .val (.int p1), .val (.int p2), .val (.int p3), .val (.long q4), .second, .val (.long q5), .second, .val (.int v1), .val (.long v55), .second, .val (.int v56), .val (.int v57), .val (.int v58), .val (.int v59), .val (.int v60), .val (.int v61), .val (.ref b206), .val (.ref b220), .val (.long v67), .second, .val (.long v68), .second, .val (.int v70), .val (.int v72), .unset, .unset, .unset, .unset, .unset] [(.int (lcmpW ((((v66 v60.toNatClampNeg).toUInt64 >>> (v61 &&& 0x3f).toInt64.toUInt64).toInt64) &&& v67) ((v59 - (1 : Int32)).toInt64)))])) _
      refine st254 _ ?_
      show Steps p.tables e below (T254.setTop (mkF m 238 #[.val (.int p0), .val (.int p1), .val (.int p2), .val (.int p3), .val (.long q4), .second, .val (.long q5), .second, .val (.int v1), .val (.long v55), .second, .val (.int v56), .val (.int v57), .val (.int v58), .val (.int v59), .val (.int v60), .val (.int v61), .val (.ref b206), .val (.ref b220), .val (.long v67), .second, .val (.long v68), .second, .val (.int v70), .val (.int v72), .unset, .unset, .unset, .unset, .unset] [(.int v74)])) _
      refine XS.istore X254.here hx rfl (hb hby at_238) rfl (l' := #[.val (.int p0), .val (.int p1), .val (.int p2), .val (.int p3), .val (.long q4), .second, .val (.long q5), .second, .val (.int v1), .val (.long v55), .second, .val (.int v56), .val (.int v57), .val (.int v58), .val (.int v59), .val (.int v60), .val (.int v61), .val (.ref b206), .val (.ref b220), .val (.long v67), .second, .val (.long v68), .second, .val (.int v70), .val (.int v72), .val (.int v74), .unset, .unset, .unset, .unset]) rfl ?_
      show Steps p.tables e below (T254.setTop (mkF m 240 #[.val (.int p0), .val (.int p1), .val (.int p2), .val (.int p3), .val (.long q4), .second, .val (.long q5), .second, .val (.int v1), .val (.long v55), .second, .val (.int v56), .val (.int v57), .val (.int v58), .val (.int v59), .val (.int v60), .val (.int v61), .val (.ref b206), .val (.ref b220), .val (.long v67), .second, .val (.long v68), .second, .val (.int v70), .val (.int v72), .val (.int v74), .unset, .unset, .unset, .unset] [])) _
      refine XS.aload X254.here hx rfl (hb hby at_240) rfl rfl ?_
      show Steps p.tables e below (T254.setTop (mkF m 242 #[.val (.int p0), .val (.int p1), .val (.int p2), .val (.int p3), .val (.long q4), .second, .val (.long q5), .second, .val (.int v1), .val (.long v55), .second, .val (.int v56), .val (.int v57), .val (.int v58), .val (.int v59), .val (.int v60), .val (.int v61), .val (.ref b206), .val (.ref b220), .val (.long v67), .second, .val (.long v68), .second, .val (.int v70), .val (.int v72), .val (.int v74), .unset, .unset, .unset, .unset] [(.ref b220)])) _
      refine XS.aload X254.here hx rfl (hb hby at_242) rfl rfl ?_
      show Steps p.tables e below (T254.setTop (mkF m 244 #[.val (.int p0), .val (.int p1), .val (.int p2), .val (.int p3), .val (.long q4), .second, .val (.long q5), .second, .val (.int v1), .val (.long v55), .second, .val (.int v56), .val (.int v57), .val (.int v58), .val (.int v59), .val (.int v60), .val (.int v61), .val (.ref b206), .val (.ref b220), .val (.long v67), .second, .val (.long v68), .second, .val (.int v70), .val (.int v72), .val (.int v74), .unset, .unset, .unset, .unset] [(.ref b206), (.ref b220)])) _
      refine XS.iload X254.here hx rfl (hb hby at_244) rfl ?_
      show Steps p.tables e below (T254.setTop (mkF m 246 #[.val (.int p0), .val (.int p1), .val (.int p2), .val (.int p3), .val (.long q4), .second, .val (.long q5), .second, .val (.int v1), .val (.long v55), .second, .val (.int v56), .val (.int v57), .val (.int v58), .val (.int v59), .val (.int v60), .val (.int v61), .val (.ref b206), .val (.ref b220), .val (.long v67), .second, .val (.long v68), .second, .val (.int v70), .val (.int v72), .val (.int v74), .unset, .unset, .unset, .unset] [(.int v58), (.ref b206), (.ref b220)])) _
      refine st255.trans ?_
      show Steps p.tables e below (T255.setTop (mkF m 249 #[.val (.int p0), .val (.int p1), .val (.int p2), .val (.int p3), .val (.long q4), .second, .val (.long q5), .second, .val (.int v1), .val (.long v55), .second, .val (.int v56), .val (.int v57), .val (.int v58), .val (.int v59), .val (.int v60), .val (.int v61), .val (.ref b206), .val (.ref b220), .val (.long v67), .second, .val (.long v68), .second, .val (.int v70), .val (.int v72), .val (.int v74), .unset, .unset, .unset, .unset] [(.int (own_r7 v58 v66 v57 v1 (((1 : Int64) <<< (v1 &&& 0x3f).toInt64) - (1 : Int64))))])) _
      refine XS.iload X255.here hx rfl (hb hby at_249) rfl ?_
      show Steps p.tables e below (T255.setTop (mkF m 251 #[.val (.int p0), .val (.int p1), .val (.int p2), .val (.int p3), .val (.long q4), .second, .val (.long q5), .second, .val (.int v1), .val (.long v55), .second, .val (.int v56), .val (.int v57), .val (.int v58), .val (.int v59), .val (.int v60), .val (.int v61), .val (.ref b206), .val (.ref b220), .val (.long v67), .second, .val (.long v68), .second, .val (.int v70), .val (.int v72), .val (.int v74), .unset, .unset, .unset, .unset] [(.int v59), (.int (own_r7 v58 v66 v57 v1 (((1 : Int64) <<< (v1 &&& 0x3f).toInt64) - (1 : Int64))))])) _
      refine st258 _ ?_
      show Steps p.tables e below (T258.setTop (mkF m 259 #[.val (.int p0), .val (.int p1), .val (.int p2), .val (.int p3), .val (.long q4), .second, .val (.long q5), .second, .val (.int v1), .val (.long v55), .second, .val (.int v56), .val (.int v57), .val (.int v58), .val (.int v59), .val (.int v60), .val (.int v61), .val (.ref b206), .val (.ref b220), .val (.long v67), .second, .val (.long v68), .second, .val (.int v70), .val (.int v72), .val (.int v74), .unset, .unset, .unset, .unset] [(.int v76)])) _
      refine XS.istore X258.here hx rfl (hb hby at_259) rfl (l' := #[.val (.int p0), .val (.int p1), .val (.int p2), .val (.int p3), .val (.long q4), .second, .val (.long q5), .second, .val (.int v1), .val (.long v55), .second, .val (.int v56), .val (.int v57), .val (.int v58), .val (.int v59), .val (.int v60), .val (.int v61), .val (.ref b206), .val (.ref b220), .val (.long v67), .second, .val (.long v68), .second, .val (.int v70), .val (.int v72), .val (.int v74), .val (.int v76), .unset, .unset, .unset]) rfl ?_
      show Steps p.tables e below (T258.setTop (mkF m 261 #[.val (.int p0), .val (.int p1), .val (.int p2), .val (.int p3), .val (.long q4), .second, .val (.long q5), .second, .val (.int v1), .val (.long v55), .second, .val (.int v56), .val (.int v57), .val (.int v58), .val (.int v59), .val (.int v60), .val (.int v61), .val (.ref b206), .val (.ref b220), .val (.long v67), .second, .val (.long v68), .second, .val (.int v70), .val (.int v72), .val (.int v74), .val (.int v76), .unset, .unset, .unset] [])) _
      refine XS.aload X258.here hx rfl (hb hby at_261) rfl rfl ?_
      show Steps p.tables e below (T258.setTop (mkF m 263 #[.val (.int p0), .val (.int p1), .val (.int p2), .val (.int p3), .val (.long q4), .second, .val (.long q5), .second, .val (.int v1), .val (.long v55), .second, .val (.int v56), .val (.int v57), .val (.int v58), .val (.int v59), .val (.int v60), .val (.int v61), .val (.ref b206), .val (.ref b220), .val (.long v67), .second, .val (.long v68), .second, .val (.int v70), .val (.int v72), .val (.int v74), .val (.int v76), .unset, .unset, .unset] [(.ref b206)])) _
      refine XS.iload X258.here hx rfl (hb hby at_263) rfl ?_
      show Steps p.tables e below (T258.setTop (mkF m 265 #[.val (.int p0), .val (.int p1), .val (.int p2), .val (.int p3), .val (.long q4), .second, .val (.long q5), .second, .val (.int v1), .val (.long v55), .second, .val (.int v56), .val (.int v57), .val (.int v58), .val (.int v59), .val (.int v60), .val (.int v61), .val (.ref b206), .val (.ref b220), .val (.long v67), .second, .val (.long v68), .second, .val (.int v70), .val (.int v72), .val (.int v74), .val (.int v76), .unset, .unset, .unset] [(.int v60), (.ref b206)])) _
      refine XS.iconst X258.here hx rfl (hb hby at_265) ?_
      show Steps p.tables e below (T258.setTop (mkF m 266 #[.val (.int p0), .val (.int p1), .val (.int p2), .val (.int p3), .val (.long q4), .second, .val (.long q5), .second, .val (.int v1), .val (.long v55), .second, .val (.int v56), .val (.int v57), .val (.int v58), .val (.int v59), .val (.int v60), .val (.int v61), .val (.ref b206), .val (.ref b220), .val (.long v67), .second, .val (.long v68), .second, .val (.int v70), .val (.int v72), .val (.int v74), .val (.int v76), .unset, .unset, .unset] [(.int (1 : Int32)), (.int v60), (.ref b206)])) _
      refine XS.iadd X258.here hx rfl (hb hby at_266) rfl ?_
      show Steps p.tables e below (T258.setTop (mkF m 267 #[.val (.int p0), .val (.int p1), .val (.int p2), .val (.int p3), .val (.long q4), .second, .val (.long q5), .second, .val (.int v1), .val (.long v55), .second, .val (.int v56), .val (.int v57), .val (.int v58), .val (.int v59), .val (.int v60), .val (.int v61), .val (.ref b206), .val (.ref b220), .val (.long v67), .second, .val (.long v68), .second, .val (.int v70), .val (.int v72), .val (.int v74), .val (.int v76), .unset, .unset, .unset] [(.int (v60 + (1 : Int32))), (.ref b206)])) _
      rw [← hv64]
      refine own_ldJ X258 hx hZ e258 F237_0n (j := v64) hin267_259 (g := (mkF m 267 #[.val (.int p0), .val (.int p1), .val (.int p2), .val (.int p3), .val (.long q4), .second, .val (.long q5), .second, .val (.int v1), .val (.long v55), .second, .val (.int v56), .val (.int v57), .val (.int v58), .val (.int v59), .val (.int v60), .val (.int v61), .val (.ref b206), .val (.ref b220), .val (.long v67), .second, .val (.long v68), .second, .val (.int v70), .val (.int v72), .val (.int v74), .val (.int v76), .unset, .unset, .unset] [(.int v64), (.ref b206)])) rfl rfl (hb hby at_267) _ ?_
      show Steps p.tables e below (T258.setTop (mkF m 268 #[.val (.int p0), .val (.int p1), .val (.int p2), .val (.int p3), .val (.long q4), .second, .val (.long q5), .second, .val (.int v1), .val (.long v55), .second, .val (.int v56), .val (.int v57), .val (.int v58), .val (.int v59), .val (.int v60), .val (.int v61), .val (.ref b206), .val (.ref b220), .val (.long v67), .second, .val (.long v68), .second, .val (.int v70), .val (.int v72), .val (.int v74), .val (.int v76), .unset, .unset, .unset] [(.long (v66 v64.toNatClampNeg))])) _
      refine XS.lload X258.here hx rfl (hb hby at_268) rfl ?_
      show Steps p.tables e below (T258.setTop (mkF m 270 #[.val (.int p0), .val (.int p1), .val (.int p2), .val (.int p3), .val (.long q4), .second, .val (.long q5), .second, .val (.int v1), .val (.long v55), .second, .val (.int v56), .val (.int v57), .val (.int v58), .val (.int v59), .val (.int v60), .val (.int v61), .val (.ref b206), .val (.ref b220), .val (.long v67), .second, .val (.long v68), .second, .val (.int v70), .val (.int v72), .val (.int v74), .val (.int v76), .unset, .unset, .unset] [(.long q5), (.long (v66 v64.toNatClampNeg))])) _
      refine XS.lcmp X258.here hx rfl (hb hby at_270) rfl ?_
      show Steps p.tables e below (T258.setTop (mkF m 271 #[.val (.int p0), .val (.int p1), .val (.int p2), .val (.int p3), .val (.long q4), .second, .val (.long q5), .second, .val (.int v1), .val (.long v55), .second, .val (.int v56), .val (.int v57), .val (.int v58), .val (.int v59), .val (.int v60), .val (.int v61), .val (.ref b206), .val (.ref b220), .val (.long v67), .second, .val (.long v68), .second, .val (.int v70), .val (.int v72), .val (.int v74), .val (.int v76), .unset, .unset, .unset] [(.int (lcmpW (v66 v64.toNatClampNeg) q5))])) _
      refine st262 _ ?_
      show Steps p.tables e below (T262.setTop (mkF m 279 #[.val (.int p0), .val (.int p1), .val (.int p2), .val (.int p3), .val (.long q4), .second, .val (.long q5), .second, .val (.int v1), .val (.long v55), .second, .val (.int v56), .val (.int v57), .val (.int v58), .val (.int v59), .val (.int v60), .val (.int v61), .val (.ref b206), .val (.ref b220), .val (.long v67), .second, .val (.long v68), .second, .val (.int v70), .val (.int v72), .val (.int v74), .val (.int v76), .unset, .unset, .unset] [(.int v78)])) _
      refine XS.istore X262.here hx rfl (hb hby at_279) rfl (l' := #[.val (.int p0), .val (.int p1), .val (.int p2), .val (.int p3), .val (.long q4), .second, .val (.long q5), .second, .val (.int v1), .val (.long v55), .second, .val (.int v56), .val (.int v57), .val (.int v58), .val (.int v59), .val (.int v60), .val (.int v61), .val (.ref b206), .val (.ref b220), .val (.long v67), .second, .val (.long v68), .second, .val (.int v70), .val (.int v72), .val (.int v74), .val (.int v76), .val (.int v78), .unset, .unset]) rfl ?_
      show Steps p.tables e below (T262.setTop (mkF m 281 #[.val (.int p0), .val (.int p1), .val (.int p2), .val (.int p3), .val (.long q4), .second, .val (.long q5), .second, .val (.int v1), .val (.long v55), .second, .val (.int v56), .val (.int v57), .val (.int v58), .val (.int v59), .val (.int v60), .val (.int v61), .val (.ref b206), .val (.ref b220), .val (.long v67), .second, .val (.long v68), .second, .val (.int v70), .val (.int v72), .val (.int v74), .val (.int v76), .val (.int v78), .unset, .unset] [])) _
      refine XS.iload X262.here hx rfl (hb hby at_281) rfl ?_
      show Steps p.tables e below (T262.setTop (mkF m 283 #[.val (.int p0), .val (.int p1), .val (.int p2), .val (.int p3), .val (.long q4), .second, .val (.long q5), .second, .val (.int v1), .val (.long v55), .second, .val (.int v56), .val (.int v57), .val (.int v58), .val (.int v59), .val (.int v60), .val (.int v61), .val (.ref b206), .val (.ref b220), .val (.long v67), .second, .val (.long v68), .second, .val (.int v70), .val (.int v72), .val (.int v74), .val (.int v76), .val (.int v78), .unset, .unset] [(.int v60)])) _
      refine st269 _ ?_
      show Steps p.tables e below (T269.setTop (mkF m 303 #[.val (.int p0), .val (.int p1), .val (.int p2), .val (.int p3), .val (.long q4), .second, .val (.long q5), .second, .val (.int v1), .val (.long v55), .second, .val (.int v56), .val (.int v57), .val (.int v58), .val (.int v59), .val (.int v60), .val (.int v61), .val (.ref b206), .val (.ref b220), .val (.long v67), .second, .val (.long v68), .second, .val (.int v70), .val (.int v72), .val (.int v74), .val (.int v76), .val (.int v78), .unset, .unset] [(.int v83)])) _
      refine XS.istore X269.here hx rfl (hb hby at_303) rfl (l' := #[.val (.int p0), .val (.int p1), .val (.int p2), .val (.int p3), .val (.long q4), .second, .val (.long q5), .second, .val (.int v1), .val (.long v55), .second, .val (.int v56), .val (.int v57), .val (.int v58), .val (.int v59), .val (.int v60), .val (.int v61), .val (.ref b206), .val (.ref b220), .val (.long v67), .second, .val (.long v68), .second, .val (.int v70), .val (.int v72), .val (.int v74), .val (.int v76), .val (.int v78), .val (.int v83), .unset]) rfl ?_
      show Steps p.tables e below (T269.setTop (mkF m 305 #[.val (.int p0), .val (.int p1), .val (.int p2), .val (.int p3), .val (.long q4), .second, .val (.long q5), .second, .val (.int v1), .val (.long v55), .second, .val (.int v56), .val (.int v57), .val (.int v58), .val (.int v59), .val (.int v60), .val (.int v61), .val (.ref b206), .val (.ref b220), .val (.long v67), .second, .val (.long v68), .second, .val (.int v70), .val (.int v72), .val (.int v74), .val (.int v76), .val (.int v78), .val (.int v83), .unset] [])) _
      refine XS.aload X269.here hx rfl (hb hby at_305) rfl rfl ?_
      show Steps p.tables e below (T269.setTop (mkF m 307 #[.val (.int p0), .val (.int p1), .val (.int p2), .val (.int p3), .val (.long q4), .second, .val (.long q5), .second, .val (.int v1), .val (.long v55), .second, .val (.int v56), .val (.int v57), .val (.int v58), .val (.int v59), .val (.int v60), .val (.int v61), .val (.ref b206), .val (.ref b220), .val (.long v67), .second, .val (.long v68), .second, .val (.int v70), .val (.int v72), .val (.int v74), .val (.int v76), .val (.int v78), .val (.int v83), .unset] [(.ref b206)])) _
      refine XS.bipush X269.here hx rfl (hb hby at_307) ?_
      show Steps p.tables e below (T269.setTop (mkF m 309 #[.val (.int p0), .val (.int p1), .val (.int p2), .val (.int p3), .val (.long q4), .second, .val (.long q5), .second, .val (.int v1), .val (.long v55), .second, .val (.int v56), .val (.int v57), .val (.int v58), .val (.int v59), .val (.int v60), .val (.int v61), .val (.ref b206), .val (.ref b220), .val (.long v67), .second, .val (.long v68), .second, .val (.int v70), .val (.int v72), .val (.int v74), .val (.int v76), .val (.int v78), .val (.int v83), .unset] [(.int (63 : Int32)), (.ref b206)])) _
      refine own_ldJ X269 hx hZ e269 F237_0n (j := (63 : Int32)) hin309_270 (g := (mkF m 309 #[.val (.int p0), .val (.int p1), .val (.int p2), .val (.int p3), .val (.long q4), .second, .val (.long q5), .second, .val (.int v1), .val (.long v55), .second, .val (.int v56), .val (.int v57), .val (.int v58), .val (.int v59), .val (.int v60), .val (.int v61), .val (.ref b206), .val (.ref b220), .val (.long v67), .second, .val (.long v68), .second, .val (.int v70), .val (.int v72), .val (.int v74), .val (.int v76), .val (.int v78), .val (.int v83), .unset] [(.int (63 : Int32)), (.ref b206)])) rfl rfl (hb hby at_309) _ ?_
      show Steps p.tables e below (T269.setTop (mkF m 310 #[.val (.int p0), .val (.int p1), .val (.int p2), .val (.int p3), .val (.long q4), .second, .val (.long q5), .second, .val (.int v1), .val (.long v55), .second, .val (.int v56), .val (.int v57), .val (.int v58), .val (.int v59), .val (.int v60), .val (.int v61), .val (.ref b206), .val (.ref b220), .val (.long v67), .second, .val (.long v68), .second, .val (.int v70), .val (.int v72), .val (.int v74), .val (.int v76), .val (.int v78), .val (.int v83), .unset] [(.long (v66 63))])) _
      refine XS.lconst X269.here hx rfl (hb hby at_310) ?_
      show Steps p.tables e below (T269.setTop (mkF m 311 #[.val (.int p0), .val (.int p1), .val (.int p2), .val (.int p3), .val (.long q4), .second, .val (.long q5), .second, .val (.int v1), .val (.long v55), .second, .val (.int v56), .val (.int v57), .val (.int v58), .val (.int v59), .val (.int v60), .val (.int v61), .val (.ref b206), .val (.ref b220), .val (.long v67), .second, .val (.long v68), .second, .val (.int v70), .val (.int v72), .val (.int v74), .val (.int v76), .val (.int v78), .val (.int v83), .unset] [(.long (0 : Int64)), (.long (v66 63))])) _
      refine XS.lcmp X269.here hx rfl (hb hby at_311) rfl ?_
      show Steps p.tables e below (T269.setTop (mkF m 312 #[.val (.int p0), .val (.int p1), .val (.int p2), .val (.int p3), .val (.long q4), .second, .val (.long q5), .second, .val (.int v1), .val (.long v55), .second, .val (.int v56), .val (.int v57), .val (.int v58), .val (.int v59), .val (.int v60), .val (.int v61), .val (.ref b206), .val (.ref b220), .val (.long v67), .second, .val (.long v68), .second, .val (.int v70), .val (.int v72), .val (.int v74), .val (.int v76), .val (.int v78), .val (.int v83), .unset] [(.int (lcmpW (v66 63) (0 : Int64)))])) _
      refine st273 _ ?_
      show Steps p.tables e below (T273.setTop (mkF m 320 #[.val (.int p0), .val (.int p1), .val (.int p2), .val (.int p3), .val (.long q4), .second, .val (.long q5), .second, .val (.int v1), .val (.long v55), .second, .val (.int v56), .val (.int v57), .val (.int v58), .val (.int v59), .val (.int v60), .val (.int v61), .val (.ref b206), .val (.ref b220), .val (.long v67), .second, .val (.long v68), .second, .val (.int v70), .val (.int v72), .val (.int v74), .val (.int v76), .val (.int v78), .val (.int v83), .unset] [(.int v85)])) _
      refine XS.istore X273.here hx rfl (hb hby at_320) rfl (l' := #[.val (.int p0), .val (.int p1), .val (.int p2), .val (.int p3), .val (.long q4), .second, .val (.long q5), .second, .val (.int v1), .val (.long v55), .second, .val (.int v56), .val (.int v57), .val (.int v58), .val (.int v59), .val (.int v60), .val (.int v61), .val (.ref b206), .val (.ref b220), .val (.long v67), .second, .val (.long v68), .second, .val (.int v70), .val (.int v72), .val (.int v74), .val (.int v76), .val (.int v78), .val (.int v83), .val (.int v85)]) rfl ?_
      show Steps p.tables e below (T273.setTop (mkF m 322 #[.val (.int p0), .val (.int p1), .val (.int p2), .val (.int p3), .val (.long q4), .second, .val (.long q5), .second, .val (.int v1), .val (.long v55), .second, .val (.int v56), .val (.int v57), .val (.int v58), .val (.int v59), .val (.int v60), .val (.int v61), .val (.ref b206), .val (.ref b220), .val (.long v67), .second, .val (.long v68), .second, .val (.int v70), .val (.int v72), .val (.int v74), .val (.int v76), .val (.int v78), .val (.int v83), .val (.int v85)] [])) _
      refine XS.iload X273.here hx rfl (hb hby at_322) rfl ?_
      show Steps p.tables e below (T273.setTop (mkF m 324 #[.val (.int p0), .val (.int p1), .val (.int p2), .val (.int p3), .val (.long q4), .second, .val (.long q5), .second, .val (.int v1), .val (.long v55), .second, .val (.int v56), .val (.int v57), .val (.int v58), .val (.int v59), .val (.int v60), .val (.int v61), .val (.ref b206), .val (.ref b220), .val (.long v67), .second, .val (.long v68), .second, .val (.int v70), .val (.int v72), .val (.int v74), .val (.int v76), .val (.int v78), .val (.int v83), .val (.int v85)] [(.int v70)])) _
      refine st294 _ ?_
      exact kt
    refine own_go hgo295 ?_
    have hz296 : v99 = 1 := own_leaf1 (p0 := p0) (p1 := p1) (p2 := p2) (p3 := p3) (q4 := q4) (q5 := q5) hv1 hv53 hv54 hv55 hv56 hv57 hv58 hv59 hv60 hv61 hv62 hv63 hv64 hv65 hv66 hv67 hv68 hv70 hv72 hv74 hv76 hv78 hv80 hv82 hv83 hv85 hv93 hv94 hv95 hv96 hv97 hv98 hv99 hc14_2
    exact own_retZ X294 hx Bd.returns Bd.notSynchronized (hb hby at_362) (by decide) (by decide) (Or.inr hz296) ⟨by rw [hz296], N294⟩
set_option maxRecDepth 65536 in
set_option maxHeartbeats 40000000 in
theorem comes_1 {Post : Tables → Env → Array Value → State → Outcome → State → Prop} (hpost : ∀ tb e args s v u, (limb_1_1.after args s (.returned v) u = true ∧ limb_1_2.after args s (.returned v) u = true ∧ True) → FrameEnd s (.returned v) u (Jvm.fieldLocs frame_1_writes args s ++ Jvm.arrayLocs frame_1_arrays args s ++ Jvm.staticLocs frame_1_statics s) 16 1344 → Post tb e args s (.returned v) u) :
    ArmFor flags0 classFile x code maxLocals ret World_1 tables_1 room_1 Calls_1 rest_1 Pre_1 Post := by
  intro l hfl _ _ p e ha hc hk s m args below hf hA hF happ hP
  obtain ⟨hcalls, hrest, hpre⟩ := hP
  obtain ⟨-, -, -, hnamed, -, -, -, hat⟩ := (Spec.applies_iff hf).mp happ
  obtain ⟨hg, hn⟩ := and_e (Cond.before_iff.mp (show (Jvm.Cond.and given_1 narrow_1).before args s = true from hpre))
  obtain ⟨gg1, gg2⟩ := and_e hg
  obtain ⟨gg3, gg4⟩ := and_e gg2
  obtain ⟨gg5, gg6⟩ := and_e gg4
  obtain ⟨gg7, gg8⟩ := and_e gg6
  obtain ⟨gg9, gg10⟩ := and_e gg8
  obtain ⟨gg11, gg12⟩ := and_e gg10
  obtain ⟨w0, w1, w2, w3, w4, w5, rfl⟩ : ∃ w0 w1 w2 w3 w4 w5 : Value, args = #[w0, w1, w2, w3, w4, w5] := by
    have hs : args.size = 6 := by simpa [Cond.value, given_1] using gg1
    obtain ⟨L⟩ := args
    match L, hs with
    | [w0, w1, w2, w3, w4, w5], _ => exact ⟨w0, w1, w2, w3, w4, w5, rfl⟩
  have hw := fun d (hd : d ∈ tables_1) => atoms_spec (ws := Jvm.Cond.code x code maxLocals ret :: tables_1) hat d (List.mem_cons_of_mem _ hd)
  have hfit : Fit s := fun {y c} hc i hi => by
    obtain ⟨ha, rfl⟩ := Array.getElem?_eq_some_iff.mp hc
    have q := List.all_eq_true.mp ((Array.all_eq_true_iff_forall_mem.mp hF) _ (Array.getElem_mem ha)) i (List.mem_range.mpr hi)
    simpa [Array.getElem?_eq_getElem hi] using q
  obtain ⟨i0, ei0⟩ := is_v gg3
  obtain rfl : w0 = (.int i0) := Option.some.inj ei0
  obtain ⟨i1, ei1⟩ := is_v gg5
  obtain rfl : w1 = (.int i1) := Option.some.inj ei1
  obtain ⟨i2, ei2⟩ := is_v gg7
  obtain rfl : w2 = (.int i2) := Option.some.inj ei2
  obtain ⟨i3, ei3⟩ := is_v gg9
  obtain rfl : w3 = (.int i3) := Option.some.inj ei3
  obtain ⟨i4, ei4⟩ := isL_v gg11
  obtain rfl : w4 = (.long i4) := Option.some.inj ei4
  obtain ⟨i5, ei5⟩ := isL_v gg12
  obtain rfl : w5 = (.long i5) := Option.some.inj ei5
  obtain ⟨n, o, h1, h2, h3, _, L, rfl, ⟨rfl, N⟩, hq⟩ := rm0 l s _ hw tables_1 i0 i1 i2 i3 i4 i5 s.heap s.heap.size (Nat.le_refl _)  p e ha hc hk s m _ below hf ((Spec.applies_iff_loose hf).mp happ).1 ⟨rfl, State.Warmed39.refl s, rfl⟩ trivial
  refine ⟨n, _, h1, h2, h3, hpost _ _ _ _ _ _ ⟨Cond.after_iff.mpr rfl, Cond.after_iff.mpr (eq_i res_at (Term.int_eval (1)) rfl), trivial⟩ ⟨hq.1, hq.2.1, (hq.2.2.sift fun y hy => Or.inr (N y hy)).mono (by decide) (by decide)⟩⟩
theorem main_1_1 : Claimed_1_1 := comes_1 fun _ _ _ _ _ _ h hF => ⟨h.1, hF⟩
theorem main_1_2 : Claimed_1_2 := comes_1 fun _ _ _ _ _ _ h hF => ⟨h.2.1, hF⟩
end Jvm.Pilot.@@N@@
namespace Jvm.Pilot.@@N@@
open Jvm Jvm.ClassFile Sem Op Lib Jvm.Free Jvm.Stand Jvm.Pilot.@@N@@.Jvm.D
/-! MADE BY PROGRAM (witnessworld.py) out of the Statement's table words and the real class files: 17 classes; the members and pool entries that the words name. The judged class is class 1, her method 1. -/
namespace start1
open Jvm.ClassFile
def u (s : String) : CpInfo := .utf8 (stringToUtf16 s)
/-- a pool by its gaps: so many unusable entries, then the entry; so many at the end -/
def gap : Nat → List CpInfo → List CpInfo
  | 0, r => r
  | n + 1, r => .unusable :: gap n r
def poolList (es : List (Nat × CpInfo)) (last : Nat) : List CpInfo := es.foldr (fun e r => gap e.1 (e.2 :: r)) (gap last [])
def pool (es : List (Nat × CpInfo)) (last : Nat) : Array CpInfo := ⟨poolList es last⟩
def fileOf (pool : Array CpInfo) (this : Nat) (attrs : Array Attribute := #[]) (ms : Array MethodInfo := #[]) (fl : Nat := 33) (sup : Nat := 0) (ifs : Array Nat := #[]) (fds : Array FieldInfo := #[]) : ClassFile where
  minorVersion := 0
  majorVersion := 65
  constantPool := pool
  accessFlags := fl
  thisClass := this
  superClass := sup
  interfaces := ifs
  fields := fds
  methods := ms
  attributes := attrs
def plain (name : String) (sup : Option ClassId) : Class where
  name := name
  kind := .ordinary
  loader := none
  accessFlags := 33
  super := sup
  interfaces := #[]
  cf := none
  fields := #[]
  methods := #[]
  instanceTypes := #[]
  staticTypes := #[]
  resolved := #[]
  callSites := []
  init := .initialized
  statics := none
  mirror := none

def pool0 : Array CpInfo := pool [(5, u "<init>"), (0, u "()V"), (1, .class_ 10), (1, u "java/lang/Object")] 113

def k0c0 : Code := { maxStack := 0, maxLocals := 1, code := object_method_1_code, exceptionTable := #[], attributes := #[] }
def k0m0 : Method := { name := "<init>", desc := "()V", sig := { parameters := [], returnType := none }, accessFlags := 1, code := some k0c0 }
/-- java/lang/Object -/
def k0 : Class := { plain "java/lang/Object" none with
  accessFlags := 33
  interfaces := #[]
  cf := some (fileOf pool0 8 #[] #[{ accessFlags := 1, nameIndex := 5, descriptorIndex := 6, attributes := #[] }] 33 0 #[] #[])
  fields := #[]
  methods := #[k0m0]
  instanceTypes := #[]
  staticTypes := #[]
  resolved := Array.replicate 124 none
  statics := none }

def pool1 : Array CpInfo := pool [(2, .class_ 4), (1, u "java/lang/Object"), (0, u "<init>"), (0, u "()V"), (0, .integer 2147483647), (2, .long 2147483647), (1, .methodref 13 14), (0, .class_ 15), (0, .nameAndType 16 17), (0, u "java/lang/Math"), (0, u "min"), (0, u "(JJ)J"), (0, .class_ 19), (0, u "com/example/swapgraph/swapgraph/AllocationTable"), (0, .methodref 18 21), (0, .nameAndType 5 22), (0, u "(II)V"), (0, .methodref 18 24), (0, .nameAndType 25 26), (0, u "set"), (0, u "([JII)V"), (0, .methodref 18 28), (0, .nameAndType 29 30), (0, u "objectOf"), (0, u "([JI)I"), (0, .class_ 32), (0, u "com/example/swapgraph/swapgraph/AllocationTableSetPinLaw"), (2, u "law"), (0, u "(IIIIJJ)Z")] 5

def k1m0 : Method := { name := "<init>", desc := "()V", sig := { parameters := [], returnType := none }, accessFlags := 1, code := none }
def k1c1 : Code := { maxStack := 10, maxLocals := 30, code := code, exceptionTable := #[], attributes := #[] }
def k1m1 : Method := { name := "law", desc := "(IIIIJJ)Z", sig := { parameters := [.int, .int, .int, .int, .long, .long], returnType := some .boolean }, accessFlags := 9, code := some k1c1 }
/-- com/example/swapgraph/swapgraph/AllocationTableSetPinLaw -/
def k1 : Class := { plain "com/example/swapgraph/swapgraph/AllocationTableSetPinLaw" (some 0) with
  accessFlags := 49
  interfaces := #[]
  cf := some (fileOf pool1 31 #[] #[{ accessFlags := 1, nameIndex := 5, descriptorIndex := 6, attributes := #[] }, { accessFlags := 9, nameIndex := 35, descriptorIndex := 36, attributes := #[] }] 49 2 #[] #[])
  fields := #[]
  methods := #[k1m0, k1m1]
  instanceTypes := #[]
  staticTypes := #[]
  resolved := Array.replicate 42 none
  statics := none }

def pool2 : Array CpInfo := pool [(1, .class_ 2), (0, u "java/lang/Integer"), (1, .class_ 6), (1, u "com/example/swapgraph/swapgraph/AllocationTable"), (0, u "<init>"), (0, u "(II)V"), (0, .methodref 10 11), (0, .class_ 12), (0, .nameAndType 7 13), (0, u "java/lang/Object"), (0, u "()V"), (0, .fieldref 4 15), (0, .nameAndType 16 17), (0, u "agents"), (0, u "I"), (0, .methodref 1 19), (0, .nameAndType 20 21), (0, u "numberOfLeadingZeros"), (0, u "(I)I"), (0, .methodref 23 24), (0, .class_ 25), (0, .nameAndType 26 27), (0, u "java/lang/Math"), (0, u "max"), (0, u "(II)I"), (0, .fieldref 4 29), (0, .nameAndType 30 17), (0, u "bits"), (0, .fieldref 4 32), (0, .nameAndType 33 17), (0, u "perWord"), (0, .fieldref 4 35), (0, .nameAndType 36 17), (0, u "words"), (0, .fieldref 4 38), (0, .nameAndType 39 40), (0, u "fieldMask"), (0, u "J"), (0, .integer 536870912), (0, .integer 2147483639), (0, .methodref 23 44), (0, .nameAndType 45 27), (0, u "min"), (0, .fieldref 4 47), (0, .nameAndType 48 17), (0, u "limit"), (0, .fieldref 4 50), (0, .nameAndType 51 52), (0, u "packed"), (0, u "[J"), (0, .fieldref 4 54), (0, .nameAndType 55 56), (0, u "slots"), (0, u "[I"), (2, u "size"), (6, .long 18446744073709551615), (3, u "objectOf"), (0, u "([JI)I"), (37, u "MAX_SLOTS"), (2, u "MAX_ARRAY"), (6, u "set"), (0, u "([JII)V")] 24

def k2c0 : Code := { maxStack := 5, maxLocals := 3, code := prog_2_method_2_code, exceptionTable := #[], attributes := #[] }
def k2m0 : Method := { name := "<init>", desc := "(II)V", sig := { parameters := [.int, .int], returnType := none }, accessFlags := 0, code := some k2c0 }
def k2c1 : Code := { maxStack := 8, maxLocals := 6, code := prog_2_method_7_code, exceptionTable := #[], attributes := #[] }
def k2m1 : Method := { name := "set", desc := "([JII)V", sig := { parameters := [(.array .long), .int, .int], returnType := none }, accessFlags := 0, code := some k2c1 }
def k2c2 : Code := { maxStack := 4, maxLocals := 4, code := prog_2_method_9_code, exceptionTable := #[], attributes := #[] }
def k2m2 : Method := { name := "objectOf", desc := "([JI)I", sig := { parameters := [(.array .long), .int], returnType := some .int }, accessFlags := 0, code := some k2c2 }
/-- com/example/swapgraph/swapgraph/AllocationTable -/
def k2 : Class := { plain "com/example/swapgraph/swapgraph/AllocationTable" (some 0) with
  accessFlags := 48
  interfaces := #[]
  cf := some (fileOf pool2 4 #[] #[{ accessFlags := 0, nameIndex := 7, descriptorIndex := 8, attributes := #[] }, { accessFlags := 0, nameIndex := 119, descriptorIndex := 120, attributes := #[] }, { accessFlags := 0, nameIndex := 70, descriptorIndex := 71, attributes := #[] }] 48 10 #[] #[{ accessFlags := 26, nameIndex := 109, descriptorIndex := 17, attributes := #[] }, { accessFlags := 26, nameIndex := 112, descriptorIndex := 17, attributes := #[] }, { accessFlags := 18, nameIndex := 16, descriptorIndex := 17, attributes := #[] }, { accessFlags := 18, nameIndex := 30, descriptorIndex := 17, attributes := #[] }, { accessFlags := 18, nameIndex := 33, descriptorIndex := 17, attributes := #[] }, { accessFlags := 18, nameIndex := 36, descriptorIndex := 17, attributes := #[] }, { accessFlags := 18, nameIndex := 39, descriptorIndex := 40, attributes := #[] }, { accessFlags := 18, nameIndex := 48, descriptorIndex := 17, attributes := #[] }, { accessFlags := 2, nameIndex := 51, descriptorIndex := 52, attributes := #[] }, { accessFlags := 2, nameIndex := 59, descriptorIndex := 17, attributes := #[] }, { accessFlags := 2, nameIndex := 55, descriptorIndex := 56, attributes := #[] }])
  fields := #[{ name := "MAX_SLOTS", type := .int, accessFlags := 26, slot := 0, constantValue := 0 }, { name := "MAX_ARRAY", type := .int, accessFlags := 26, slot := 1, constantValue := 0 }, { name := "agents", type := .int, accessFlags := 18, slot := 0, constantValue := 0 }, { name := "bits", type := .int, accessFlags := 18, slot := 1, constantValue := 0 }, { name := "perWord", type := .int, accessFlags := 18, slot := 2, constantValue := 0 }, { name := "words", type := .int, accessFlags := 18, slot := 3, constantValue := 0 }, { name := "fieldMask", type := .long, accessFlags := 18, slot := 4, constantValue := 0 }, { name := "limit", type := .int, accessFlags := 18, slot := 5, constantValue := 0 }, { name := "packed", type := (.array .long), accessFlags := 2, slot := 6, constantValue := 0 }, { name := "size", type := .int, accessFlags := 2, slot := 7, constantValue := 0 }, { name := "slots", type := (.array .int), accessFlags := 2, slot := 8, constantValue := 0 }]
  methods := #[k2m0, k2m1, k2m2]
  instanceTypes := #[.int, .int, .int, .int, .long, .int, (.array .long), .int, (.array .int)]
  staticTypes := #[.int, .int]
  resolved := Array.replicate 145 none
  statics := none }

def pool3 : Array CpInfo := pool [(1, .class_ 2), (0, u "java/io/Serializable"), (0, .class_ 4), (0, u "java/lang/Object")] 2

/-- java/io/Serializable -/
def k3 : Class := { plain "java/io/Serializable" (some 0) with
  accessFlags := 1537
  interfaces := #[]
  cf := some (fileOf pool3 1 #[] #[] 1537 3 #[] #[])
  fields := #[]
  methods := #[]
  instanceTypes := #[]
  staticTypes := #[]
  resolved := Array.replicate 7 none
  statics := none }

def pool4 : Array CpInfo := pool [(2, .class_ 4), (1, u "java/lang/Object"), (0, u "<init>"), (0, u "()V"), (1, .class_ 10), (1, u "java/lang/Number"), (2, .class_ 14), (0, u "java/io/Serializable"), (0, u "serialVersionUID"), (0, u "J")] 20

def k4m0 : Method := { name := "<init>", desc := "()V", sig := { parameters := [], returnType := none }, accessFlags := 1, code := none }
/-- java/lang/Number -/
def k4 : Class := { plain "java/lang/Number" (some 0) with
  accessFlags := 1057
  interfaces := #[3]
  cf := some (fileOf pool4 8 #[] #[{ accessFlags := 1, nameIndex := 5, descriptorIndex := 6, attributes := #[] }] 1057 2 #[13] #[{ accessFlags := 26, nameIndex := 15, descriptorIndex := 16, attributes := #[] }])
  fields := #[{ name := "serialVersionUID", type := .long, accessFlags := 26, slot := 0, constantValue := 0 }]
  methods := #[k4m0]
  instanceTypes := #[]
  staticTypes := #[.long]
  resolved := Array.replicate 37 none
  statics := none }

def pool5 : Array CpInfo := pool [(1, .class_ 2), (0, u "java/lang/Comparable"), (0, .class_ 4), (0, u "java/lang/Object")] 7

/-- java/lang/Comparable -/
def k5 : Class := { plain "java/lang/Comparable" (some 0) with
  accessFlags := 1537
  interfaces := #[]
  cf := some (fileOf pool5 1 #[] #[] 1537 3 #[] #[])
  fields := #[]
  methods := #[]
  instanceTypes := #[]
  staticTypes := #[]
  resolved := Array.replicate 12 none
  statics := none }

def pool6 : Array CpInfo := pool [(1, .class_ 2), (0, u "java/lang/constant/Constable"), (0, .class_ 4), (0, u "java/lang/Object")] 6

/-- java/lang/constant/Constable -/
def k6 : Class := { plain "java/lang/constant/Constable" (some 0) with
  accessFlags := 1537
  interfaces := #[]
  cf := some (fileOf pool6 1 #[] #[] 1537 3 #[] #[])
  fields := #[]
  methods := #[]
  instanceTypes := #[]
  staticTypes := #[]
  resolved := Array.replicate 11 none
  statics := none }

def pool7 : Array CpInfo := pool [(1, .class_ 2), (0, u "java/lang/constant/ConstantDesc"), (0, .class_ 4), (0, u "java/lang/Object")] 32

/-- java/lang/constant/ConstantDesc -/
def k7 : Class := { plain "java/lang/constant/ConstantDesc" (some 0) with
  accessFlags := 1537
  interfaces := #[]
  cf := some (fileOf pool7 1 #[] #[] 1537 3 #[] #[])
  fields := #[]
  methods := #[]
  instanceTypes := #[]
  staticTypes := #[]
  resolved := Array.replicate 37 none
  statics := none }

def pool8 : Array CpInfo := pool [(1, .class_ 2), (0, u "java/lang/Integer"), (16, u "digits"), (0, u "[C"), (32, u "numberOfLeadingZeros"), (0, u "(I)I"), (30, u "DigitOnes"), (0, u "[B"), (2, u "DigitTens"), (99, .class_ 190), (0, u "java/lang/Integer$IntegerCache"), (3, u "I"), (8, .class_ 204), (0, u "java/lang/Number"), (2, u "value"), (56, .integer 65536), (37, u "TYPE"), (0, u "Ljava/lang/Class;"), (0, .class_ 305), (0, u "java/lang/Comparable"), (0, .class_ 307), (0, u "java/lang/constant/Constable"), (0, .class_ 309), (0, u "java/lang/constant/ConstantDesc"), (0, u "MIN_VALUE"), (1, u "MAX_VALUE"), (3, u "SIZE"), (1, u "BYTES"), (1, u "serialVersionUID"), (0, u "J")] 131

def k8c0 : Code := { maxStack := 3, maxLocals := 2, code := jdk_33_method_47_code, exceptionTable := #[], attributes := #[] }
def k8m0 : Method := { name := "numberOfLeadingZeros", desc := "(I)I", sig := { parameters := [.int], returnType := some .int }, accessFlags := 9, code := some k8c0 }
/-- java/lang/Integer -/
def k8 : Class := { plain "java/lang/Integer" (some 4) with
  accessFlags := 49
  interfaces := #[5, 6, 7]
  cf := some (fileOf pool8 1 #[.nestMembers #[189]] #[{ accessFlags := 9, nameIndex := 53, descriptorIndex := 54, attributes := #[] }] 49 203 #[304, 306, 308] #[{ accessFlags := 25, nameIndex := 310, descriptorIndex := 194, attributes := #[] }, { accessFlags := 25, nameIndex := 312, descriptorIndex := 194, attributes := #[] }, { accessFlags := 25, nameIndex := 302, descriptorIndex := 303, attributes := #[] }, { accessFlags := 24, nameIndex := 19, descriptorIndex := 20, attributes := #[] }, { accessFlags := 24, nameIndex := 89, descriptorIndex := 86, attributes := #[] }, { accessFlags := 24, nameIndex := 85, descriptorIndex := 86, attributes := #[] }, { accessFlags := 18, nameIndex := 207, descriptorIndex := 194, attributes := #[] }, { accessFlags := 25, nameIndex := 316, descriptorIndex := 194, attributes := #[] }, { accessFlags := 25, nameIndex := 318, descriptorIndex := 194, attributes := #[] }, { accessFlags := 26, nameIndex := 320, descriptorIndex := 321, attributes := #[] }])
  fields := #[{ name := "MIN_VALUE", type := .int, accessFlags := 25, slot := 0, constantValue := 0 }, { name := "MAX_VALUE", type := .int, accessFlags := 25, slot := 1, constantValue := 0 }, { name := "TYPE", type := (.object "java/lang/Class"), accessFlags := 25, slot := 2, constantValue := 0 }, { name := "digits", type := (.array .char), accessFlags := 24, slot := 3, constantValue := 0 }, { name := "DigitTens", type := (.array .byte), accessFlags := 24, slot := 4, constantValue := 0 }, { name := "DigitOnes", type := (.array .byte), accessFlags := 24, slot := 5, constantValue := 0 }, { name := "value", type := .int, accessFlags := 18, slot := 0, constantValue := 0 }, { name := "SIZE", type := .int, accessFlags := 25, slot := 6, constantValue := 0 }, { name := "BYTES", type := .int, accessFlags := 25, slot := 7, constantValue := 0 }, { name := "serialVersionUID", type := .long, accessFlags := 26, slot := 8, constantValue := 0 }]
  methods := #[k8m0]
  instanceTypes := #[.int]
  staticTypes := #[.int, .int, (.object "java/lang/Class"), (.array .char), (.array .byte), (.array .byte), .int, .int, .long]
  resolved := Array.replicate 453 none
  statics := none }

def pool9 : Array CpInfo := pool [(1, .class_ 2), (0, u "java/lang/Math"), (1, .class_ 6), (1, u "java/lang/Object"), (0, u "<init>"), (0, u "()V"), (89, .class_ 100), (1, u "java/lang/Math$RandomNumberGeneratorHolder"), (20, u "(JJ)J"), (50, u "negativeZeroFloatBits"), (0, u "J"), (2, u "negativeZeroDoubleBits"), (21, u "max"), (2, u "min"), (43, u "$assertionsDisabled"), (0, u "Z"), (88, u "(II)I"), (2, u "twoToTheDoubleScaleDown"), (0, u "D"), (4, u "twoToTheDoubleScaleUp"), (9, u "E"), (3, u "PI"), (2, u "TAU"), (2, u "DEGREES_TO_RADIANS"), (0, u "RADIANS_TO_DEGREES")] 94

def k9m0 : Method := { name := "<init>", desc := "()V", sig := { parameters := [], returnType := none }, accessFlags := 2, code := none }
def k9c1 : Code := { maxStack := 2, maxLocals := 2, code := jdk_29_method_65_code, exceptionTable := #[], attributes := #[] }
def k9m1 : Method := { name := "max", desc := "(II)I", sig := { parameters := [.int, .int], returnType := some .int }, accessFlags := 9, code := some k9c1 }
def k9c2 : Code := { maxStack := 2, maxLocals := 2, code := jdk_29_method_69_code, exceptionTable := #[], attributes := #[] }
def k9m2 : Method := { name := "min", desc := "(II)I", sig := { parameters := [.int, .int], returnType := some .int }, accessFlags := 9, code := some k9c2 }
def k9c3 : Code := { maxStack := 4, maxLocals := 4, code := jdk_29_method_70_code, exceptionTable := #[], attributes := #[] }
def k9m3 : Method := { name := "min", desc := "(JJ)J", sig := { parameters := [.long, .long], returnType := some .long }, accessFlags := 9, code := some k9c3 }
/-- java/lang/Math -/
def k9 : Class := { plain "java/lang/Math" (some 0) with
  accessFlags := 49
  interfaces := #[]
  cf := some (fileOf pool9 1 #[.nestMembers #[98]] #[{ accessFlags := 2, nameIndex := 7, descriptorIndex := 8, attributes := #[] }, { accessFlags := 9, nameIndex := 198, descriptorIndex := 335, attributes := #[] }, { accessFlags := 9, nameIndex := 201, descriptorIndex := 335, attributes := #[] }, { accessFlags := 9, nameIndex := 201, descriptorIndex := 121, attributes := #[] }] 49 4 #[] #[{ accessFlags := 25, nameIndex := 354, descriptorIndex := 339, attributes := #[] }, { accessFlags := 25, nameIndex := 358, descriptorIndex := 339, attributes := #[] }, { accessFlags := 25, nameIndex := 361, descriptorIndex := 339, attributes := #[] }, { accessFlags := 26, nameIndex := 364, descriptorIndex := 339, attributes := #[] }, { accessFlags := 26, nameIndex := 365, descriptorIndex := 339, attributes := #[] }, { accessFlags := 26, nameIndex := 172, descriptorIndex := 173, attributes := #[] }, { accessFlags := 26, nameIndex := 176, descriptorIndex := 173, attributes := #[] }, { accessFlags := 8, nameIndex := 344, descriptorIndex := 339, attributes := #[] }, { accessFlags := 8, nameIndex := 338, descriptorIndex := 339, attributes := #[] }, { accessFlags := 4120, nameIndex := 245, descriptorIndex := 246, attributes := #[] }])
  fields := #[{ name := "E", type := .double, accessFlags := 25, slot := 0, constantValue := 0 }, { name := "PI", type := .double, accessFlags := 25, slot := 1, constantValue := 0 }, { name := "TAU", type := .double, accessFlags := 25, slot := 2, constantValue := 0 }, { name := "DEGREES_TO_RADIANS", type := .double, accessFlags := 26, slot := 3, constantValue := 0 }, { name := "RADIANS_TO_DEGREES", type := .double, accessFlags := 26, slot := 4, constantValue := 0 }, { name := "negativeZeroFloatBits", type := .long, accessFlags := 26, slot := 5, constantValue := 0 }, { name := "negativeZeroDoubleBits", type := .long, accessFlags := 26, slot := 6, constantValue := 0 }, { name := "twoToTheDoubleScaleUp", type := .double, accessFlags := 8, slot := 7, constantValue := 0 }, { name := "twoToTheDoubleScaleDown", type := .double, accessFlags := 8, slot := 8, constantValue := 0 }, { name := "$assertionsDisabled", type := .boolean, accessFlags := 4120, slot := 9, constantValue := 0 }]
  methods := #[k9m0, k9m1, k9m2, k9m3]
  instanceTypes := #[]
  staticTypes := #[.double, .double, .double, .double, .double, .long, .long, .double, .double, .boolean]
  resolved := Array.replicate 460 none
  statics := none }

def pool10 : Array CpInfo := pool [(1, u "java/lang/Cloneable"), (0, .class_ 1), (0, u "java/lang/Object"), (0, .class_ 3)] 3

/-- java/lang/Cloneable -/
def k10 : Class := { plain "java/lang/Cloneable" (some 0) with
  accessFlags := 1537
  interfaces := #[]
  cf := some (fileOf pool10 2 #[] #[] 1537 4 #[] #[])
  fields := #[]
  methods := #[]
  instanceTypes := #[]
  staticTypes := #[]
  resolved := Array.replicate 8 none
  statics := none }

/-- the primitive byte -/
def k11 : Class := { plain "byte" none with kind := .primitive 'B', accessFlags := 0x411 }
/-- [B -/
def k12 : Class := { plain "[B" (some 0) with kind := .array 11 .byte, interfaces := #[10, 3], accessFlags := 1041 }

/-- the primitive int -/
def k13 : Class := { plain "int" none with kind := .primitive 'I', accessFlags := 0x411 }
/-- [I -/
def k14 : Class := { plain "[I" (some 0) with kind := .array 13 .int, interfaces := #[10, 3], accessFlags := 1041 }

/-- the primitive long -/
def k15 : Class := { plain "long" none with kind := .primitive 'J', accessFlags := 0x411 }
/-- [J -/
def k16 : Class := { plain "[J" (some 0) with kind := .array 15 .long, interfaces := #[10, 3], accessFlags := 1041 }

def heap : Heap := #[]
def classes : Array Class := #[k0, k1, k2, k3, k4, k5, k6, k7, k8, k9, k10, k11, k12, k13, k14, k15, k16]
def interned : List (Array UInt16 × Addr) := []
def slotsUsed : Nat := 0
def theMethod : MethodId := ⟨1, 1⟩
def args0 : Array Value := #[.int 5, .int 5, .int 5, .int 5, .long 5, .long 5]
def aboutOver (below : List Frame) : State where
  vm := { classes := classes, interned := interned.toArray }
  heap := heap
  slotsUsed := slotsUsed
  threads := #[{ frames := .invoking theMethod args0 :: below }]
def below0 : List Frame := [.native { method := ⟨0, 0⟩, args := #[] }]
def about1 : State := aboutOver below0
def p0 : Program := .bare "" "" ""
def e0 : Env := launch0.env 0 0 0
theorem w_frames : about1.frames = Frame.invoking theMethod args0 :: below0 := rfl
set_option maxRecDepth 65536 in
theorem w_args : argsFit about1.vm theMethod args0 = true := by decide +kernel
set_option maxRecDepth 65536 in
theorem w_heap : heapFits about1 = true := by decide +kernel
set_option maxRecDepth 65536 in
theorem w_runnable : about1.curStatus? = some .runnable := by decide +kernel
set_option maxRecDepth 65536 in
theorem w_alone : about1.alone = true := by decide +kernel
set_option maxRecDepth 65536 in
theorem w_named : about1.methodNamed? x = some theMethod := by decide +kernel
set_option maxRecDepth 65536 in
theorem w_hears : about1.hears theMethod below0 = true := by decide +kernel
set_option maxRecDepth 65536 in
theorem w_ripe : about1.ripe theMethod args0 below0 = true := by decide +kernel
theorem w_running : about1.status = .running := rfl
set_option maxRecDepth 65536 in
theorem w_room : about1.hasRoom e0.platform room_1 = true :=
  launch0.hasRoom_least _ room_1 (by decide +kernel) (by decide +kernel) (by decide +kernel) (by decide +kernel) (by decide +kernel) (by decide +kernel)
theorem allAtoms_all (ts : List Jvm.Cond) (a : Array Jvm.Value) (st : Jvm.State) : (allAtoms ts).before a st = ts.all (fun c => c.before a st) := by
  induction ts with
  | nil => rfl
  | cons c t ih =>
    show (Jvm.Cond.and c (allAtoms t)).before a st = _
    rw [Jvm.Cond.before_and, ih, List.all_cons]
def words1 : List Jvm.Cond := Jvm.Cond.code x code maxLocals ret :: tables_1
/-- a 'code' word, met by the world's own term for the bytes: nothing is compared byte by byte -/
theorem code_word {y : MethodName} {bytes : ByteArray} {mx : Nat} {rt : Option FieldType} {a : Array Value} {s : State} {m : MethodId} {meth : Method} {c : Code} (h1 : s.methodNamed? y = some m) (h2 : s.vm.method? m = some meth) (h3 : meth.code = some c) (h4 : c.code = bytes)
    (h5 : (c.maxLocals == mx && c.exceptionTable.isEmpty && decide (c.maxStack ≤ mostOperands) && decide (meth.sig.returnType = rt) && !meth.locks && decide (parseMethodDescriptor y.desc = some meth.sig)) = true) : (Jvm.Cond.code y bytes mx rt).before a s = true := by
  simp only [Bool.and_eq_true, beq_iff_eq, Bool.not_eq_true', decide_eq_true_eq] at h5
  obtain ⟨⟨⟨⟨⟨g1, g2⟩, g3⟩, g4⟩, g5⟩, g6⟩ := h5
  simp [Cond.before, Cond.holds, Cond.value, h1, h2, h3, h4, g1, g2, g3, g4, g5, g6]
def isCode : Jvm.Cond → Bool
  | .code _ _ _ _ => true
  | _ => false
theorem all_split {L : List Jvm.Cond} {P : Jvm.Cond → Bool} (h1 : L.all (fun c => isCode c || P c) = true) (h2 : ∀ c ∈ L.filter isCode, P c = true) : L.all P = true := by
  refine List.all_eq_true.mpr fun c hc => ?_
  have h := List.all_eq_true.mp h1 c hc
  rcases Bool.eq_false_or_eq_true (isCode c) with hi | hi
  · exact h2 c (List.mem_filter.mpr ⟨hc, hi⟩)
  · simpa [hi] using h
set_option maxRecDepth 65536 in
theorem w_c0 : (Jvm.Cond.code x code maxLocals ret).before args0 about1 = true := code_word (m := ⟨1, 1⟩) (meth := k1m1) (c := k1c1) (by decide +kernel) rfl rfl rfl (by decide +kernel)
set_option maxRecDepth 65536 in
theorem w_c1 : (Jvm.Cond.code ({ cls := "com/example/swapgraph/swapgraph/AllocationTable", name := "<init>", desc := "(II)V" } : Jvm.MethodName) prog_2_method_2_code (3 : Nat) (Option.none : Option Jvm.ClassFile.FieldType)).before args0 about1 = true := code_word (m := ⟨2, 0⟩) (meth := k2m0) (c := k2c0) (by decide +kernel) rfl rfl rfl (by decide +kernel)
set_option maxRecDepth 65536 in
theorem w_c2 : (Jvm.Cond.code ({ cls := "java/lang/Object", name := "<init>", desc := "()V" } : Jvm.MethodName) object_method_1_code (1 : Nat) (Option.none : Option Jvm.ClassFile.FieldType)).before args0 about1 = true := code_word (m := ⟨0, 0⟩) (meth := k0m0) (c := k0c0) (by decide +kernel) rfl rfl rfl (by decide +kernel)
set_option maxRecDepth 65536 in
theorem w_c3 : (Jvm.Cond.code ({ cls := "java/lang/Integer", name := "numberOfLeadingZeros", desc := "(I)I" } : Jvm.MethodName) jdk_33_method_47_code (2 : Nat) (Option.some Jvm.ClassFile.FieldType.int)).before args0 about1 = true := code_word (m := ⟨8, 0⟩) (meth := k8m0) (c := k8c0) (by decide +kernel) rfl rfl rfl (by decide +kernel)
set_option maxRecDepth 65536 in
theorem w_c4 : (Jvm.Cond.code ({ cls := "java/lang/Math", name := "max", desc := "(II)I" } : Jvm.MethodName) jdk_29_method_65_code (2 : Nat) (Option.some Jvm.ClassFile.FieldType.int)).before args0 about1 = true := code_word (m := ⟨9, 1⟩) (meth := k9m1) (c := k9c1) (by decide +kernel) rfl rfl rfl (by decide +kernel)
set_option maxRecDepth 65536 in
theorem w_c5 : (Jvm.Cond.code ({ cls := "java/lang/Math", name := "min", desc := "(II)I" } : Jvm.MethodName) jdk_29_method_69_code (2 : Nat) (Option.some Jvm.ClassFile.FieldType.int)).before args0 about1 = true := code_word (m := ⟨9, 2⟩) (meth := k9m2) (c := k9c2) (by decide +kernel) rfl rfl rfl (by decide +kernel)
set_option maxRecDepth 65536 in
theorem w_c6 : (Jvm.Cond.code ({ cls := "com/example/swapgraph/swapgraph/AllocationTable", name := "set", desc := "([JII)V" } : Jvm.MethodName) prog_2_method_7_code (6 : Nat) (Option.none : Option Jvm.ClassFile.FieldType)).before args0 about1 = true := code_word (m := ⟨2, 1⟩) (meth := k2m1) (c := k2c1) (by decide +kernel) rfl rfl rfl (by decide +kernel)
set_option maxRecDepth 65536 in
theorem w_c7 : (Jvm.Cond.code ({ cls := "com/example/swapgraph/swapgraph/AllocationTable", name := "objectOf", desc := "([JI)I" } : Jvm.MethodName) prog_2_method_9_code (4 : Nat) (Option.some Jvm.ClassFile.FieldType.int)).before args0 about1 = true := code_word (m := ⟨2, 2⟩) (meth := k2m2) (c := k2c2) (by decide +kernel) rfl rfl rfl (by decide +kernel)
set_option maxRecDepth 65536 in
theorem w_c8 : (Jvm.Cond.code ({ cls := "java/lang/Math", name := "min", desc := "(JJ)J" } : Jvm.MethodName) jdk_29_method_70_code (4 : Nat) (Option.some Jvm.ClassFile.FieldType.long)).before args0 about1 = true := code_word (m := ⟨9, 3⟩) (meth := k9m3) (c := k9c3) (by decide +kernel) rfl rfl rfl (by decide +kernel)
def codes1 : List Jvm.Cond := [Jvm.Cond.code x code maxLocals ret, Jvm.Cond.code ({ cls := "com/example/swapgraph/swapgraph/AllocationTable", name := "<init>", desc := "(II)V" } : Jvm.MethodName) prog_2_method_2_code (3 : Nat) (Option.none : Option Jvm.ClassFile.FieldType), Jvm.Cond.code ({ cls := "java/lang/Object", name := "<init>", desc := "()V" } : Jvm.MethodName) object_method_1_code (1 : Nat) (Option.none : Option Jvm.ClassFile.FieldType), Jvm.Cond.code ({ cls := "java/lang/Integer", name := "numberOfLeadingZeros", desc := "(I)I" } : Jvm.MethodName) jdk_33_method_47_code (2 : Nat) (Option.some Jvm.ClassFile.FieldType.int), Jvm.Cond.code ({ cls := "java/lang/Math", name := "max", desc := "(II)I" } : Jvm.MethodName) jdk_29_method_65_code (2 : Nat) (Option.some Jvm.ClassFile.FieldType.int), Jvm.Cond.code ({ cls := "java/lang/Math", name := "min", desc := "(II)I" } : Jvm.MethodName) jdk_29_method_69_code (2 : Nat) (Option.some Jvm.ClassFile.FieldType.int), Jvm.Cond.code ({ cls := "com/example/swapgraph/swapgraph/AllocationTable", name := "set", desc := "([JII)V" } : Jvm.MethodName) prog_2_method_7_code (6 : Nat) (Option.none : Option Jvm.ClassFile.FieldType), Jvm.Cond.code ({ cls := "com/example/swapgraph/swapgraph/AllocationTable", name := "objectOf", desc := "([JI)I" } : Jvm.MethodName) prog_2_method_9_code (4 : Nat) (Option.some Jvm.ClassFile.FieldType.int), Jvm.Cond.code ({ cls := "java/lang/Math", name := "min", desc := "(JJ)J" } : Jvm.MethodName) jdk_29_method_70_code (4 : Nat) (Option.some Jvm.ClassFile.FieldType.long)]
set_option maxRecDepth 65536 in
theorem codes_eq : words1.filter isCode = codes1 := rfl
theorem w_codes : ∀ c ∈ words1.filter isCode, c.before args0 about1 = true := by
  rw [codes_eq]
  intro c hc
  simp only [codes1, List.mem_cons, List.not_mem_nil, or_false] at hc
  rcases hc with rfl | rfl | rfl | rfl | rfl | rfl | rfl | rfl | rfl
  · exact w_c0
  · exact w_c1
  · exact w_c2
  · exact w_c3
  · exact w_c4
  · exact w_c5
  · exact w_c6
  · exact w_c7
  · exact w_c8
set_option maxRecDepth 65536 in
theorem w_t1 : (words1.take 24).all (fun c => isCode c || c.before args0 about1) = true := by decide +kernel
set_option maxRecDepth 65536 in
theorem w_t2 : ((words1.drop 24).take 24).all (fun c => isCode c || c.before args0 about1) = true := by decide +kernel
set_option maxRecDepth 65536 in
theorem w_t3 : ((words1.drop 24).drop 24).all (fun c => isCode c || c.before args0 about1) = true := by decide +kernel
theorem w_tables : (allAtoms (Jvm.Cond.code x code maxLocals ret :: tables_1)).before args0 about1 = true := by
  rw [allAtoms_all]
  show words1.all (fun c => c.before args0 about1) = true
  refine all_split ?_ w_codes
  rw [← List.take_append_drop 24 words1, List.all_append, w_t1, ← List.take_append_drop 24 (words1.drop 24), List.all_append, w_t2, w_t3]
  rfl
set_option maxRecDepth 65536 in
theorem w_case : (Jvm.Cond.and given_1 narrow_1).before args0 about1 = true := by decide +kernel
theorem w_applies : (headSpec (Jvm.Cond.code x code maxLocals ret :: tables_1) room_1).applies x e0.platform about1 = true :=
  (Spec.applies_iff w_frames).mpr ⟨w_running, w_runnable, w_alone, w_named, w_hears, w_ripe, w_room, w_tables⟩
theorem atStart : AtStart classFile x code maxLocals ret World_1 tables_1 room_1 Calls_1 rest_1 Pre_1 launch0 p0 e0 about1 theMethod args0 below0 :=
  ⟨lists_1, trivial, launch0.admits_env _ _ _, launch0.least_env, fairChoices_fair.cas, fairChoices_fair.clock, w_frames, w_args, w_heap, w_applies, trivial, trivial, w_case⟩
end start1
theorem witness_1 : WitnessClaimed_1 := ⟨start1.p0, start1.e0, start1.about1, start1.theMethod, start1.args0, start1.below0, start1.atStart⟩
end Jvm.Pilot.@@N@@
